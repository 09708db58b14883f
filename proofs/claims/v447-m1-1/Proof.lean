import JvmDerived
import JvmDerived.Pilot.@@N@@Statement
import JvmDerived.Pilot.@@N@@Code
set_option linter.unusedVariables false
set_option linter.unusedSimpArgs false
namespace Jvm.Pilot.@@N@@
open Jvm Jvm.ClassFile Sem Op Lib Jvm.Free Jvm.Stand Jvm.LawKit Jvm.RoadKit Bundle Jvm.Pilot.@@N@@.Jvm.D
/-- from A the run comes to B -/
def Go (p : Program) (e : Env) (below : List Frame) (A B : State) : Prop := ∀ t, Steps p.tables e below B t → Steps p.tables e below A t
def own_b (P : Prop) [Decidable P] : Int32 := if P then 1 else 0
theorem own_b1 {P : Prop} [Decidable P] (h : P) : ¬ own_b P = (0 : Int32) := by simp [own_b, h]
theorem own_b0 {P : Prop} [Decidable P] (h : ¬ P) : own_b P = (0 : Int32) := by simp [own_b, h]
theorem own_bt {P : Prop} [Decidable P] (h : P) : own_b P = (1 : Int32) := by simp [own_b, h]
theorem own_nb {P : Prop} [Decidable P] : nar .boolean (own_b P) = own_b P := by by_cases h : P <;> simp [own_b, h] <;> decide
theorem own_beq {P R : Prop} [Decidable P] [Decidable R] (h : P ↔ R) : own_b P = own_b R := by by_cases q : P <;> simp [own_b, q, ← h]
theorem d1_0 : decode prog_91_method_1_code 0 = .ok (.aload_n 0, 1) := by decide +kernel
theorem d1_1 : decode prog_91_method_1_code 1 = .ok (.invokespecial 1, 3) := by decide +kernel
theorem d1_4 : decode prog_91_method_1_code 4 = .ok (.aload_n 0, 1) := by decide +kernel
theorem d1_5 : decode prog_91_method_1_code 5 = .ok (.sipush 1024, 3) := by decide +kernel
theorem d1_8 : decode prog_91_method_1_code 8 = .ok (.newarray .boolean, 2) := by decide +kernel
theorem d1_10 : decode prog_91_method_1_code 10 = .ok (.putfield 9, 3) := by decide +kernel
theorem d1_13 : decode prog_91_method_1_code 13 = .ok (.aload_n 0, 1) := by decide +kernel
theorem d1_14 : decode prog_91_method_1_code 14 = .ok (.aload_n 1, 1) := by decide +kernel
theorem d1_15 : decode prog_91_method_1_code 15 = .ok (.putfield 13, 3) := by decide +kernel
theorem d1_18 : decode prog_91_method_1_code 18 = .ok (.return_, 1) := by decide +kernel
theorem d3_0 : decode prog_91_method_10_code 0 = .ok (.aload_n 0, 1) := by decide +kernel
theorem d3_1 : decode prog_91_method_10_code 1 = .ok (.getfield 17, 3) := by decide +kernel
theorem d3_4 : decode prog_91_method_10_code 4 = .ok (.newarray .int, 2) := by decide +kernel
theorem d3_6 : decode prog_91_method_10_code 6 = .ok (.astore_n 1, 1) := by decide +kernel
theorem d3_7 : decode prog_91_method_10_code 7 = .ok (.iconst 0, 1) := by decide +kernel
theorem d3_8 : decode prog_91_method_10_code 8 = .ok (.istore_n 2, 1) := by decide +kernel
theorem d3_9 : decode prog_91_method_10_code 9 = .ok (.iconst 0, 1) := by decide +kernel
theorem d3_10 : decode prog_91_method_10_code 10 = .ok (.istore_n 3, 1) := by decide +kernel
theorem d3_11 : decode prog_91_method_10_code 11 = .ok (.iload_n 3, 1) := by decide +kernel
theorem d3_12 : decode prog_91_method_10_code 12 = .ok (.aload_n 0, 1) := by decide +kernel
theorem d3_13 : decode prog_91_method_10_code 13 = .ok (.getfield 17, 3) := by decide +kernel
theorem d3_16 : decode prog_91_method_10_code 16 = .ok (.if_icmp .ge 26, 3) := by decide +kernel
theorem d3_19 : decode prog_91_method_10_code 19 = .ok (.iload_n 2, 1) := by decide +kernel
theorem d3_20 : decode prog_91_method_10_code 20 = .ok (.aload_n 0, 1) := by decide +kernel
theorem d3_21 : decode prog_91_method_10_code 21 = .ok (.getfield 9, 3) := by decide +kernel
theorem d3_24 : decode prog_91_method_10_code 24 = .ok (.iload_n 3, 1) := by decide +kernel
theorem d3_25 : decode prog_91_method_10_code 25 = .ok (.baload, 1) := by decide +kernel
theorem d3_26 : decode prog_91_method_10_code 26 = .ok (.ifCond .eq 7, 3) := by decide +kernel
theorem d3_29 : decode prog_91_method_10_code 29 = .ok (.iconst 0, 1) := by decide +kernel
theorem d3_30 : decode prog_91_method_10_code 30 = .ok (.goto 4, 3) := by decide +kernel
theorem d3_33 : decode prog_91_method_10_code 33 = .ok (.iconst 1, 1) := by decide +kernel
theorem d3_34 : decode prog_91_method_10_code 34 = .ok (.iadd, 1) := by decide +kernel
theorem d3_35 : decode prog_91_method_10_code 35 = .ok (.istore_n 2, 1) := by decide +kernel
theorem d3_36 : decode prog_91_method_10_code 36 = .ok (.iinc 3 1, 3) := by decide +kernel
theorem d3_39 : decode prog_91_method_10_code 39 = .ok (.goto (-28), 3) := by decide +kernel
theorem d3_42 : decode prog_91_method_10_code 42 = .ok (.iconst 0, 1) := by decide +kernel
theorem d3_43 : decode prog_91_method_10_code 43 = .ok (.istore_n 3, 1) := by decide +kernel
theorem d3_44 : decode prog_91_method_10_code 44 = .ok (.iload_n 2, 1) := by decide +kernel
theorem d3_45 : decode prog_91_method_10_code 45 = .ok (.istore 4, 2) := by decide +kernel
theorem d3_47 : decode prog_91_method_10_code 47 = .ok (.iconst 0, 1) := by decide +kernel
theorem d3_48 : decode prog_91_method_10_code 48 = .ok (.istore 5, 2) := by decide +kernel
theorem d3_50 : decode prog_91_method_10_code 50 = .ok (.iload 5, 2) := by decide +kernel
theorem d3_52 : decode prog_91_method_10_code 52 = .ok (.aload_n 0, 1) := by decide +kernel
theorem d3_53 : decode prog_91_method_10_code 53 = .ok (.getfield 17, 3) := by decide +kernel
theorem d3_56 : decode prog_91_method_10_code 56 = .ok (.if_icmp .ge 35, 3) := by decide +kernel
theorem d3_59 : decode prog_91_method_10_code 59 = .ok (.aload_n 1, 1) := by decide +kernel
theorem d3_60 : decode prog_91_method_10_code 60 = .ok (.aload_n 0, 1) := by decide +kernel
theorem d3_61 : decode prog_91_method_10_code 61 = .ok (.getfield 9, 3) := by decide +kernel
theorem d3_64 : decode prog_91_method_10_code 64 = .ok (.iload 5, 2) := by decide +kernel
theorem d3_66 : decode prog_91_method_10_code 66 = .ok (.baload, 1) := by decide +kernel
theorem d3_67 : decode prog_91_method_10_code 67 = .ok (.ifCond .eq 11, 3) := by decide +kernel
theorem d3_70 : decode prog_91_method_10_code 70 = .ok (.iload 4, 2) := by decide +kernel
theorem d3_72 : decode prog_91_method_10_code 72 = .ok (.iinc 4 1, 3) := by decide +kernel
theorem d3_75 : decode prog_91_method_10_code 75 = .ok (.goto 7, 3) := by decide +kernel
theorem d3_78 : decode prog_91_method_10_code 78 = .ok (.iload_n 3, 1) := by decide +kernel
theorem d3_79 : decode prog_91_method_10_code 79 = .ok (.iinc 3 1, 3) := by decide +kernel
theorem d3_82 : decode prog_91_method_10_code 82 = .ok (.iload 5, 2) := by decide +kernel
theorem d3_84 : decode prog_91_method_10_code 84 = .ok (.iastore, 1) := by decide +kernel
theorem d3_85 : decode prog_91_method_10_code 85 = .ok (.iinc 5 1, 3) := by decide +kernel
theorem d3_88 : decode prog_91_method_10_code 88 = .ok (.goto (-38), 3) := by decide +kernel
theorem d3_91 : decode prog_91_method_10_code 91 = .ok (.aload_n 1, 1) := by decide +kernel
theorem d3_92 : decode prog_91_method_10_code 92 = .ok (.areturn, 1) := by decide +kernel
theorem d4_0 : decode method_3_code 0 = .ok (.iload_n 2, 1) := by decide +kernel
theorem d4_1 : decode method_3_code 1 = .ok (.iload_n 1, 1) := by decide +kernel
theorem d4_2 : decode method_3_code 2 = .ok (.if_icmp .lt 5, 3) := by decide +kernel
theorem d4_5 : decode method_3_code 5 = .ok (.iconst 1, 1) := by decide +kernel
theorem d4_6 : decode method_3_code 6 = .ok (.ireturn, 1) := by decide +kernel
theorem d4_7 : decode method_3_code 7 = .ok (.iload_n 3, 1) := by decide +kernel
theorem d4_8 : decode method_3_code 8 = .ok (.ifCond .lt 19, 3) := by decide +kernel
theorem d4_11 : decode method_3_code 11 = .ok (.iload_n 3, 1) := by decide +kernel
theorem d4_12 : decode method_3_code 12 = .ok (.iload_n 1, 1) := by decide +kernel
theorem d4_13 : decode method_3_code 13 = .ok (.if_icmp .ge 14, 3) := by decide +kernel
theorem d4_16 : decode method_3_code 16 = .ok (.aload_n 0, 1) := by decide +kernel
theorem d4_17 : decode method_3_code 17 = .ok (.iload_n 3, 1) := by decide +kernel
theorem d4_18 : decode method_3_code 18 = .ok (.iaload, 1) := by decide +kernel
theorem d4_19 : decode method_3_code 19 = .ok (.iload_n 2, 1) := by decide +kernel
theorem d4_20 : decode method_3_code 20 = .ok (.if_icmp .ne 7, 3) := by decide +kernel
theorem d4_23 : decode method_3_code 23 = .ok (.iconst 1, 1) := by decide +kernel
theorem d4_24 : decode method_3_code 24 = .ok (.goto 4, 3) := by decide +kernel
theorem d4_28 : decode method_3_code 28 = .ok (.ireturn, 1) := by decide +kernel
theorem d5_0 : decode prog_91_method_2_code 0 = .ok (.aload_n 0, 1) := by decide +kernel
theorem d5_1 : decode prog_91_method_2_code 1 = .ok (.getfield 17, 3) := by decide +kernel
theorem d5_4 : decode prog_91_method_2_code 4 = .ok (.aload_n 0, 1) := by decide +kernel
theorem d5_5 : decode prog_91_method_2_code 5 = .ok (.getfield 9, 3) := by decide +kernel
theorem d5_8 : decode prog_91_method_2_code 8 = .ok (.arraylength, 1) := by decide +kernel
theorem d5_9 : decode prog_91_method_2_code 9 = .ok (.if_icmp .ne 20, 3) := by decide +kernel
theorem d5_29 : decode prog_91_method_2_code 29 = .ok (.aload_n 0, 1) := by decide +kernel
theorem d5_30 : decode prog_91_method_2_code 30 = .ok (.getfield 9, 3) := by decide +kernel
theorem d5_33 : decode prog_91_method_2_code 33 = .ok (.aload_n 0, 1) := by decide +kernel
theorem d5_34 : decode prog_91_method_2_code 34 = .ok (.dup, 1) := by decide +kernel
theorem d5_35 : decode prog_91_method_2_code 35 = .ok (.getfield 17, 3) := by decide +kernel
theorem d5_38 : decode prog_91_method_2_code 38 = .ok (.dup_x1, 1) := by decide +kernel
theorem d5_39 : decode prog_91_method_2_code 39 = .ok (.iconst 1, 1) := by decide +kernel
theorem d5_40 : decode prog_91_method_2_code 40 = .ok (.iadd, 1) := by decide +kernel
theorem d5_41 : decode prog_91_method_2_code 41 = .ok (.putfield 17, 3) := by decide +kernel
theorem d5_44 : decode prog_91_method_2_code 44 = .ok (.iload_n 1, 1) := by decide +kernel
theorem d5_45 : decode prog_91_method_2_code 45 = .ok (.bastore, 1) := by decide +kernel
theorem d5_46 : decode prog_91_method_2_code 46 = .ok (.return_, 1) := by decide +kernel
theorem pn_0 : plainName "com/example/tube2/tube2/trace/BooleanSignal" = true := by first | (simp [plainName, overriddenIn]; done) | decide +kernel
theorem pn_1 : plainName "com/example/tube2/tube2/trace/BooleanSignalOrderPinLaw" = true := by first | (simp [plainName, overriddenIn]; done) | decide +kernel
theorem pd_0 : parseMethodDescriptor "(Ljava/lang/String;)V" = some ⟨[(.object "java/lang/String")], none⟩ := by decide +kernel
theorem pd_1 : parseMethodDescriptor "([IIII)Z" = some ⟨[(.array .int), .int, .int, .int], some .boolean⟩ := by decide +kernel
theorem pd_2 : parseMethodDescriptor "()[I" = some ⟨[], some (.array .int)⟩ := by decide +kernel
theorem pd_3 : parseMethodDescriptor "(Z)V" = some ⟨[.boolean], none⟩ := by decide +kernel
theorem ef_rm1 (m : MethodId) (x0 : Addr) (x1 : Addr) : entryFrame m #[(.ref x0), (.ref x1)] 2 = mkF m 0 #[.val (.ref x0), .val (.ref x1)] [] := by first | (simp [entryFrame, mkF, argsToLocals, Value.category]; done) | rfl
theorem ef_rmA0 (m : MethodId) (x0 : Addr) (x1 : Int32) : entryFrame m #[(.ref x0), (.int x1)] 2 = mkF m 0 #[.val (.ref x0), .val (.int x1)] [] := by first | (simp [entryFrame, mkF, argsToLocals, Value.category]; done) | rfl
theorem ef_rmA1 (m : MethodId) (x0 : Addr) (x1 : Int32) : entryFrame m #[(.ref x0), (.int x1)] 2 = mkF m 0 #[.val (.ref x0), .val (.int x1)] [] := by first | (simp [entryFrame, mkF, argsToLocals, Value.category]; done) | rfl
theorem ef_rmA2 (m : MethodId) (x0 : Addr) (x1 : Int32) : entryFrame m #[(.ref x0), (.int x1)] 2 = mkF m 0 #[.val (.ref x0), .val (.int x1)] [] := by first | (simp [entryFrame, mkF, argsToLocals, Value.category]; done) | rfl
theorem ef_rmA3 (m : MethodId) (x0 : Addr) (x1 : Int32) : entryFrame m #[(.ref x0), (.int x1)] 2 = mkF m 0 #[.val (.ref x0), .val (.int x1)] [] := by first | (simp [entryFrame, mkF, argsToLocals, Value.category]; done) | rfl
theorem ef_rmA4 (m : MethodId) (x0 : Addr) (x1 : Int32) : entryFrame m #[(.ref x0), (.int x1)] 2 = mkF m 0 #[.val (.ref x0), .val (.int x1)] [] := by first | (simp [entryFrame, mkF, argsToLocals, Value.category]; done) | rfl
theorem ef_rmO0 (m : MethodId) (x0 : Addr) : entryFrame m #[(.ref x0)] 6 = mkF m 0 #[.val (.ref x0), .unset, .unset, .unset, .unset, .unset] [] := by first | (simp [entryFrame, mkF, argsToLocals, Value.category]; done) | rfl
theorem ef_rmO1 (m : MethodId) (x0 : Addr) : entryFrame m #[(.ref x0)] 6 = mkF m 0 #[.val (.ref x0), .unset, .unset, .unset, .unset, .unset] [] := by first | (simp [entryFrame, mkF, argsToLocals, Value.category]; done) | rfl
theorem ef_rmO2 (m : MethodId) (x0 : Addr) : entryFrame m #[(.ref x0)] 6 = mkF m 0 #[.val (.ref x0), .unset, .unset, .unset, .unset, .unset] [] := by first | (simp [entryFrame, mkF, argsToLocals, Value.category]; done) | rfl
theorem ef_rmO3 (m : MethodId) (x0 : Addr) : entryFrame m #[(.ref x0)] 6 = mkF m 0 #[.val (.ref x0), .unset, .unset, .unset, .unset, .unset] [] := by first | (simp [entryFrame, mkF, argsToLocals, Value.category]; done) | rfl
theorem ef_rmO4 (m : MethodId) (x0 : Addr) : entryFrame m #[(.ref x0)] 6 = mkF m 0 #[.val (.ref x0), .unset, .unset, .unset, .unset, .unset] [] := by first | (simp [entryFrame, mkF, argsToLocals, Value.category]; done) | rfl
theorem ef_rmO5 (m : MethodId) (x0 : Addr) : entryFrame m #[(.ref x0)] 6 = mkF m 0 #[.val (.ref x0), .unset, .unset, .unset, .unset, .unset] [] := by first | (simp [entryFrame, mkF, argsToLocals, Value.category]; done) | rfl
theorem ef_rm4 (m : MethodId) (x0 : Addr) (x1 : Int32) (x2 : Int32) (x3 : Int32) : entryFrame m #[(.ref x0), (.int x1), (.int x2), (.int x3)] 4 = mkF m 0 #[.val (.ref x0), .val (.int x1), .val (.int x2), .val (.int x3)] [] := by first | (simp [entryFrame, mkF, argsToLocals, Value.category]; done) | rfl
theorem ef_rm0 (m : MethodId) (x0 : Int32) (x1 : Int32) : entryFrame m #[(.int x0), (.int x1)] maxLocals = mkF m 0 #[.val (.int x0), .val (.int x1), .unset, .unset, .unset, .unset, .unset, .unset, .unset, .unset, .unset, .unset, .unset, .unset, .unset, .unset, .unset, .unset, .unset, .unset, .unset, .unset, .unset, .unset, .unset] [] := by first | (simp [entryFrame, mkF, argsToLocals, Value.category, maxLocals]; done) | rfl
/-- an array of n places; place j holds g j -/
def Af (Z : State) (h : Heap) (a : Addr) (k : ClassId) (ty : FieldType) (n : Int32) (g : Nat → Value) : Prop := ∃ c : Cell, Arr Z h a c ty ∧ c.cls = k ∧ c.slots.size = n.toNatClampNeg ∧ ¬ n < 0 ∧ ∀ j, j < n.toNatClampNeg → c.slots[j]? = some (g j)
theorem Af.lt {Z : State} {h : Heap} {a : Addr} {k : ClassId} {ty : FieldType} {n : Int32} {g : Nat → Value} (F : Af Z h a k ty n g) : a < h.size := by obtain ⟨c, A, -⟩ := F; exact A.lt
theorem Af.ext {Z : State} {h h' : Heap} {a : Addr} {k : ClassId} {ty : FieldType} {n : Int32} {g : Nat → Value} (F : Af Z h a k ty n g) (E : Ext h h') : Af Z h' a k ty n g := by obtain ⟨c, A, r⟩ := F; exact ⟨c, A.ext E, r⟩
theorem Af.other {Z : State} {h h' : Heap} {a b : Addr} {sl : Nat} {v : Value} {k : ClassId} {ty : FieldType} {n : Int32} {g : Nat → Value} (F : Af Z h b k ty n g) (W : Wr h h' a sl v) (q : b ≠ a) : Af Z h' b k ty n g := by obtain ⟨c, A, r⟩ := F; exact ⟨c, A.other W q, r⟩
theorem Af.keep {Z : State} {h h' : Heap} {a : Addr} {ws : List Addr} {k : ClassId} {ty : FieldType} {n : Int32} {g : Nat → Value} (F : Af Z h a k ty n g) (K : Keep h h' ws) (q : a ∉ ws) : Af Z h' a k ty n g := by obtain ⟨c, A, r⟩ := F; exact ⟨c, ⟨K.2.1 a c A.1 q, A.2⟩, r⟩
theorem Af.of {Z : State} {h : Heap} {a : Addr} {k : ClassId} {ty : FieldType} {n : Int32} {vs : List Value} {d : Value} (F : Arv Z h a k ty n vs d) : Af Z h a k ty n (fun j => vs.getD j d) := by
  obtain ⟨c, A, q, S, M, H, -⟩ := F
  exact ⟨c, A, q, S, M, fun j hj => H j (by rw [S]; exact hj)⟩
theorem Af.set {Z : State} {h h' : Heap} {a : Addr} {c : Cell} {k : ClassId} {ty : FieldType} {n j : Int32} {v : Value} {g : Nat → Value} (A : Arr Z h a c ty) (q : c.cls = k) (S : c.slots.size = n.toNatClampNeg) (M : ¬ n < 0) (H : ∀ j, j < n.toNatClampNeg → c.slots[j]? = some (g j)) (W : Wr h h' a j.toNatClampNeg v) (hj : ¬ (j < 0 ∨ c.slots.size ≤ j.toNatClampNeg)) : Af Z h' a k ty n (fun i => if i = j.toNatClampNeg then v else g i) := by
  refine ⟨_, A.same W, q, (sz_set _ _ _).trans S, M, fun i hi => ?_⟩
  by_cases e : i = j.toNatClampNeg
  · subst e
    have hl : j.toNatClampNeg < c.slots.size := Nat.lt_of_not_le fun y => hj (Or.inr y)
    simp [Cell.setSlot, hl]
  · simp only [e, if_false]
    rw [← H i hi]
    simp [Cell.setSlot, Array.getElem?_setIfInBounds, Ne.symm e]
theorem Af.fn {Z : State} {h : Heap} {a : Addr} {k : ClassId} {ty : FieldType} {n : Int32} {g g' : Nat → Value} (F : Af Z h a k ty n g) (e : ∀ j, j < n.toNatClampNeg → g j = g' j) : Af Z h a k ty n g' := by
  obtain ⟨c, A, q, S, M, H⟩ := F
  exact ⟨c, A, q, S, M, fun j hj => (H j hj).trans (congrArg some (e j hj))⟩
def own_z (v : Int32) : Int32 := own_b (v = (0 : Int32))
def own_o (v : Int32) : Int32 := own_b (¬ v = (0 : Int32))
def own_f (i n v : Int32) : Int32 := own_b (i < n ∧ v = (0 : Int32))
def own_t (i n v : Int32) : Int32 := own_b (i < n ∧ ¬ v = (0 : Int32))
def own_nf1 (v0 : Int32) : Int32 := (0 : Int32) + (own_z v0)
def own_nf2 (v0 v1 : Int32) : Int32 := (own_nf1 v0) + (own_z v1)
def own_nf3 (v0 v1 v2 : Int32) : Int32 := (own_nf2 v0 v1) + (own_z v2)
def own_nf4 (v0 v1 v2 v3 : Int32) : Int32 := (own_nf3 v0 v1 v2) + (own_z v3)
def own_nf5 (v0 v1 v2 v3 v4 : Int32) : Int32 := (own_nf4 v0 v1 v2 v3) + (own_z v4)
def own_g0_0  : Nat → Value := fun j => [].getD j (.int (0 : Int32))
def own_nt1_1 (v0 : Int32) : Int32 := (own_nf1 v0) + (own_o v0)
def own_ix1_0 (v0 : Int32) : Int32 := if v0 = (0 : Int32) then (0 : Int32) else (own_nf1 v0)
def own_g1_0 (v0 : Int32) : Nat → Value := fun j => [(.int (0 : Int32))].getD j (.int (0 : Int32))
def own_g1_1 (v0 : Int32) : Nat → Value := fun i => if i = ((own_ix1_0 v0)).toNatClampNeg then (.int (0 : Int32)) else (own_g1_0 v0) i
def own_nt2_1 (v0 v1 : Int32) : Int32 := (own_nf2 v0 v1) + (own_o v0)
def own_nt2_2 (v0 v1 : Int32) : Int32 := (own_nt2_1 v0 v1) + (own_o v1)
def own_ix2_0 (v0 v1 : Int32) : Int32 := if v0 = (0 : Int32) then (0 : Int32) else (own_nf2 v0 v1)
def own_ix2_1 (v0 v1 : Int32) : Int32 := if v1 = (0 : Int32) then (own_nf1 v0) else (own_nt2_1 v0 v1)
def own_g2_0 (v0 v1 : Int32) : Nat → Value := fun j => [(.int (0 : Int32)), (.int (0 : Int32))].getD j (.int (0 : Int32))
def own_g2_1 (v0 v1 : Int32) : Nat → Value := fun i => if i = ((own_ix2_0 v0 v1)).toNatClampNeg then (.int (0 : Int32)) else (own_g2_0 v0 v1) i
def own_g2_2 (v0 v1 : Int32) : Nat → Value := fun i => if i = ((own_ix2_1 v0 v1)).toNatClampNeg then (.int (1 : Int32)) else (own_g2_1 v0 v1) i
def own_nt3_1 (v0 v1 v2 : Int32) : Int32 := (own_nf3 v0 v1 v2) + (own_o v0)
def own_nt3_2 (v0 v1 v2 : Int32) : Int32 := (own_nt3_1 v0 v1 v2) + (own_o v1)
def own_nt3_3 (v0 v1 v2 : Int32) : Int32 := (own_nt3_2 v0 v1 v2) + (own_o v2)
def own_ix3_0 (v0 v1 v2 : Int32) : Int32 := if v0 = (0 : Int32) then (0 : Int32) else (own_nf3 v0 v1 v2)
def own_ix3_1 (v0 v1 v2 : Int32) : Int32 := if v1 = (0 : Int32) then (own_nf1 v0) else (own_nt3_1 v0 v1 v2)
def own_ix3_2 (v0 v1 v2 : Int32) : Int32 := if v2 = (0 : Int32) then (own_nf2 v0 v1) else (own_nt3_2 v0 v1 v2)
def own_g3_0 (v0 v1 v2 : Int32) : Nat → Value := fun j => [(.int (0 : Int32)), (.int (0 : Int32)), (.int (0 : Int32))].getD j (.int (0 : Int32))
def own_g3_1 (v0 v1 v2 : Int32) : Nat → Value := fun i => if i = ((own_ix3_0 v0 v1 v2)).toNatClampNeg then (.int (0 : Int32)) else (own_g3_0 v0 v1 v2) i
def own_g3_2 (v0 v1 v2 : Int32) : Nat → Value := fun i => if i = ((own_ix3_1 v0 v1 v2)).toNatClampNeg then (.int (1 : Int32)) else (own_g3_1 v0 v1 v2) i
def own_g3_3 (v0 v1 v2 : Int32) : Nat → Value := fun i => if i = ((own_ix3_2 v0 v1 v2)).toNatClampNeg then (.int (2 : Int32)) else (own_g3_2 v0 v1 v2) i
def own_nt4_1 (v0 v1 v2 v3 : Int32) : Int32 := (own_nf4 v0 v1 v2 v3) + (own_o v0)
def own_nt4_2 (v0 v1 v2 v3 : Int32) : Int32 := (own_nt4_1 v0 v1 v2 v3) + (own_o v1)
def own_nt4_3 (v0 v1 v2 v3 : Int32) : Int32 := (own_nt4_2 v0 v1 v2 v3) + (own_o v2)
def own_nt4_4 (v0 v1 v2 v3 : Int32) : Int32 := (own_nt4_3 v0 v1 v2 v3) + (own_o v3)
def own_ix4_0 (v0 v1 v2 v3 : Int32) : Int32 := if v0 = (0 : Int32) then (0 : Int32) else (own_nf4 v0 v1 v2 v3)
def own_ix4_1 (v0 v1 v2 v3 : Int32) : Int32 := if v1 = (0 : Int32) then (own_nf1 v0) else (own_nt4_1 v0 v1 v2 v3)
def own_ix4_2 (v0 v1 v2 v3 : Int32) : Int32 := if v2 = (0 : Int32) then (own_nf2 v0 v1) else (own_nt4_2 v0 v1 v2 v3)
def own_ix4_3 (v0 v1 v2 v3 : Int32) : Int32 := if v3 = (0 : Int32) then (own_nf3 v0 v1 v2) else (own_nt4_3 v0 v1 v2 v3)
def own_g4_0 (v0 v1 v2 v3 : Int32) : Nat → Value := fun j => [(.int (0 : Int32)), (.int (0 : Int32)), (.int (0 : Int32)), (.int (0 : Int32))].getD j (.int (0 : Int32))
def own_g4_1 (v0 v1 v2 v3 : Int32) : Nat → Value := fun i => if i = ((own_ix4_0 v0 v1 v2 v3)).toNatClampNeg then (.int (0 : Int32)) else (own_g4_0 v0 v1 v2 v3) i
def own_g4_2 (v0 v1 v2 v3 : Int32) : Nat → Value := fun i => if i = ((own_ix4_1 v0 v1 v2 v3)).toNatClampNeg then (.int (1 : Int32)) else (own_g4_1 v0 v1 v2 v3) i
def own_g4_3 (v0 v1 v2 v3 : Int32) : Nat → Value := fun i => if i = ((own_ix4_2 v0 v1 v2 v3)).toNatClampNeg then (.int (2 : Int32)) else (own_g4_2 v0 v1 v2 v3) i
def own_g4_4 (v0 v1 v2 v3 : Int32) : Nat → Value := fun i => if i = ((own_ix4_3 v0 v1 v2 v3)).toNatClampNeg then (.int (3 : Int32)) else (own_g4_3 v0 v1 v2 v3) i
def own_nt5_1 (v0 v1 v2 v3 v4 : Int32) : Int32 := (own_nf5 v0 v1 v2 v3 v4) + (own_o v0)
def own_nt5_2 (v0 v1 v2 v3 v4 : Int32) : Int32 := (own_nt5_1 v0 v1 v2 v3 v4) + (own_o v1)
def own_nt5_3 (v0 v1 v2 v3 v4 : Int32) : Int32 := (own_nt5_2 v0 v1 v2 v3 v4) + (own_o v2)
def own_nt5_4 (v0 v1 v2 v3 v4 : Int32) : Int32 := (own_nt5_3 v0 v1 v2 v3 v4) + (own_o v3)
def own_nt5_5 (v0 v1 v2 v3 v4 : Int32) : Int32 := (own_nt5_4 v0 v1 v2 v3 v4) + (own_o v4)
def own_ix5_0 (v0 v1 v2 v3 v4 : Int32) : Int32 := if v0 = (0 : Int32) then (0 : Int32) else (own_nf5 v0 v1 v2 v3 v4)
def own_ix5_1 (v0 v1 v2 v3 v4 : Int32) : Int32 := if v1 = (0 : Int32) then (own_nf1 v0) else (own_nt5_1 v0 v1 v2 v3 v4)
def own_ix5_2 (v0 v1 v2 v3 v4 : Int32) : Int32 := if v2 = (0 : Int32) then (own_nf2 v0 v1) else (own_nt5_2 v0 v1 v2 v3 v4)
def own_ix5_3 (v0 v1 v2 v3 v4 : Int32) : Int32 := if v3 = (0 : Int32) then (own_nf3 v0 v1 v2) else (own_nt5_3 v0 v1 v2 v3 v4)
def own_ix5_4 (v0 v1 v2 v3 v4 : Int32) : Int32 := if v4 = (0 : Int32) then (own_nf4 v0 v1 v2 v3) else (own_nt5_4 v0 v1 v2 v3 v4)
def own_g5_0 (v0 v1 v2 v3 v4 : Int32) : Nat → Value := fun j => [(.int (0 : Int32)), (.int (0 : Int32)), (.int (0 : Int32)), (.int (0 : Int32)), (.int (0 : Int32))].getD j (.int (0 : Int32))
def own_g5_1 (v0 v1 v2 v3 v4 : Int32) : Nat → Value := fun i => if i = ((own_ix5_0 v0 v1 v2 v3 v4)).toNatClampNeg then (.int (0 : Int32)) else (own_g5_0 v0 v1 v2 v3 v4) i
def own_g5_2 (v0 v1 v2 v3 v4 : Int32) : Nat → Value := fun i => if i = ((own_ix5_1 v0 v1 v2 v3 v4)).toNatClampNeg then (.int (1 : Int32)) else (own_g5_1 v0 v1 v2 v3 v4) i
def own_g5_3 (v0 v1 v2 v3 v4 : Int32) : Nat → Value := fun i => if i = ((own_ix5_2 v0 v1 v2 v3 v4)).toNatClampNeg then (.int (2 : Int32)) else (own_g5_2 v0 v1 v2 v3 v4) i
def own_g5_4 (v0 v1 v2 v3 v4 : Int32) : Nat → Value := fun i => if i = ((own_ix5_3 v0 v1 v2 v3 v4)).toNatClampNeg then (.int (3 : Int32)) else (own_g5_3 v0 v1 v2 v3 v4) i
def own_g5_5 (v0 v1 v2 v3 v4 : Int32) : Nat → Value := fun i => if i = ((own_ix5_4 v0 v1 v2 v3 v4)).toNatClampNeg then (.int (4 : Int32)) else (own_g5_4 v0 v1 v2 v3 v4) i
def own_G (nn : Int32) (v0 v1 v2 v3 v4 : Int32) : Nat → Value := if nn = (0 : Int32) then (own_g0_0) else if nn = (1 : Int32) then (own_g1_1 v0) else if nn = (2 : Int32) then (own_g2_2 v0 v1) else if nn = (3 : Int32) then (own_g3_3 v0 v1 v2) else if nn = (4 : Int32) then (own_g4_4 v0 v1 v2 v3) else (own_g5_5 v0 v1 v2 v3 v4)
def own_fal (nn : Int32) (v0 v1 v2 v3 v4 : Int32) : Int32 := ((((own_f 0 nn v0 + own_f 1 nn v1) + own_f 2 nn v2) + own_f 3 nn v3) + own_f 4 nn v4)
def own_p0 (nn : Int32) (v0 v1 v2 v3 v4 : Int32) : Int32 := if v0 = (0 : Int32) then (0 : Int32) else (own_fal nn v0 v1 v2 v3 v4)
def own_p1 (nn : Int32) (v0 v1 v2 v3 v4 : Int32) : Int32 := if v1 = (0 : Int32) then (own_f (0 : Int32) nn v0) else ((own_fal nn v0 v1 v2 v3 v4) + (own_t (0 : Int32) nn v0))
def own_p2 (nn : Int32) (v0 v1 v2 v3 v4 : Int32) : Int32 := if v2 = (0 : Int32) then ((own_f (0 : Int32) nn v0) + (own_f (1 : Int32) nn v1)) else (((own_fal nn v0 v1 v2 v3 v4) + (own_t (0 : Int32) nn v0)) + (own_t (1 : Int32) nn v1))
def own_p3 (nn : Int32) (v0 v1 v2 v3 v4 : Int32) : Int32 := if v3 = (0 : Int32) then (((own_f (0 : Int32) nn v0) + (own_f (1 : Int32) nn v1)) + (own_f (2 : Int32) nn v2)) else ((((own_fal nn v0 v1 v2 v3 v4) + (own_t (0 : Int32) nn v0)) + (own_t (1 : Int32) nn v1)) + (own_t (2 : Int32) nn v2))
def own_p4 (nn : Int32) (v0 v1 v2 v3 v4 : Int32) : Int32 := if v4 = (0 : Int32) then ((((own_f (0 : Int32) nn v0) + (own_f (1 : Int32) nn v1)) + (own_f (2 : Int32) nn v2)) + (own_f (3 : Int32) nn v3)) else (((((own_fal nn v0 v1 v2 v3 v4) + (own_t (0 : Int32) nn v0)) + (own_t (1 : Int32) nn v1)) + (own_t (2 : Int32) nn v2)) + (own_t (3 : Int32) nn v3))
def own_Six (b : Int32) : Prop := b = (0 : Int32) ∨ b = (1 : Int32) ∨ b = (2 : Int32) ∨ b = (3 : Int32) ∨ b = (4 : Int32) ∨ b = (5 : Int32)
theorem own_idx_1_0 (v0 : Int32) (hb0 : v0 = (0 : Int32) ∨ v0 = (1 : Int32)) : ¬ (own_ix1_0 v0) < 0 ∧ (own_ix1_0 v0) < (1 : Int32) := by
  rcases hb0 with rfl | rfl <;> decide
theorem own_idx_2_0 (v0 v1 : Int32) (hb0 : v0 = (0 : Int32) ∨ v0 = (1 : Int32)) (hb1 : v1 = (0 : Int32) ∨ v1 = (1 : Int32)) : ¬ (own_ix2_0 v0 v1) < 0 ∧ (own_ix2_0 v0 v1) < (2 : Int32) := by
  rcases hb0 with rfl | rfl <;> rcases hb1 with rfl | rfl <;> decide
theorem own_idx_2_1 (v0 v1 : Int32) (hb0 : v0 = (0 : Int32) ∨ v0 = (1 : Int32)) (hb1 : v1 = (0 : Int32) ∨ v1 = (1 : Int32)) : ¬ (own_ix2_1 v0 v1) < 0 ∧ (own_ix2_1 v0 v1) < (2 : Int32) := by
  rcases hb0 with rfl | rfl <;> rcases hb1 with rfl | rfl <;> decide
theorem own_idx_3_0 (v0 v1 v2 : Int32) (hb0 : v0 = (0 : Int32) ∨ v0 = (1 : Int32)) (hb1 : v1 = (0 : Int32) ∨ v1 = (1 : Int32)) (hb2 : v2 = (0 : Int32) ∨ v2 = (1 : Int32)) : ¬ (own_ix3_0 v0 v1 v2) < 0 ∧ (own_ix3_0 v0 v1 v2) < (3 : Int32) := by
  rcases hb0 with rfl | rfl <;> rcases hb1 with rfl | rfl <;> rcases hb2 with rfl | rfl <;> decide
theorem own_idx_3_1 (v0 v1 v2 : Int32) (hb0 : v0 = (0 : Int32) ∨ v0 = (1 : Int32)) (hb1 : v1 = (0 : Int32) ∨ v1 = (1 : Int32)) (hb2 : v2 = (0 : Int32) ∨ v2 = (1 : Int32)) : ¬ (own_ix3_1 v0 v1 v2) < 0 ∧ (own_ix3_1 v0 v1 v2) < (3 : Int32) := by
  rcases hb0 with rfl | rfl <;> rcases hb1 with rfl | rfl <;> rcases hb2 with rfl | rfl <;> decide
theorem own_idx_3_2 (v0 v1 v2 : Int32) (hb0 : v0 = (0 : Int32) ∨ v0 = (1 : Int32)) (hb1 : v1 = (0 : Int32) ∨ v1 = (1 : Int32)) (hb2 : v2 = (0 : Int32) ∨ v2 = (1 : Int32)) : ¬ (own_ix3_2 v0 v1 v2) < 0 ∧ (own_ix3_2 v0 v1 v2) < (3 : Int32) := by
  rcases hb0 with rfl | rfl <;> rcases hb1 with rfl | rfl <;> rcases hb2 with rfl | rfl <;> decide
theorem own_idx_4_0 (v0 v1 v2 v3 : Int32) (hb0 : v0 = (0 : Int32) ∨ v0 = (1 : Int32)) (hb1 : v1 = (0 : Int32) ∨ v1 = (1 : Int32)) (hb2 : v2 = (0 : Int32) ∨ v2 = (1 : Int32)) (hb3 : v3 = (0 : Int32) ∨ v3 = (1 : Int32)) : ¬ (own_ix4_0 v0 v1 v2 v3) < 0 ∧ (own_ix4_0 v0 v1 v2 v3) < (4 : Int32) := by
  rcases hb0 with rfl | rfl <;> rcases hb1 with rfl | rfl <;> rcases hb2 with rfl | rfl <;> rcases hb3 with rfl | rfl <;> decide
theorem own_idx_4_1 (v0 v1 v2 v3 : Int32) (hb0 : v0 = (0 : Int32) ∨ v0 = (1 : Int32)) (hb1 : v1 = (0 : Int32) ∨ v1 = (1 : Int32)) (hb2 : v2 = (0 : Int32) ∨ v2 = (1 : Int32)) (hb3 : v3 = (0 : Int32) ∨ v3 = (1 : Int32)) : ¬ (own_ix4_1 v0 v1 v2 v3) < 0 ∧ (own_ix4_1 v0 v1 v2 v3) < (4 : Int32) := by
  rcases hb0 with rfl | rfl <;> rcases hb1 with rfl | rfl <;> rcases hb2 with rfl | rfl <;> rcases hb3 with rfl | rfl <;> decide
theorem own_idx_4_2 (v0 v1 v2 v3 : Int32) (hb0 : v0 = (0 : Int32) ∨ v0 = (1 : Int32)) (hb1 : v1 = (0 : Int32) ∨ v1 = (1 : Int32)) (hb2 : v2 = (0 : Int32) ∨ v2 = (1 : Int32)) (hb3 : v3 = (0 : Int32) ∨ v3 = (1 : Int32)) : ¬ (own_ix4_2 v0 v1 v2 v3) < 0 ∧ (own_ix4_2 v0 v1 v2 v3) < (4 : Int32) := by
  rcases hb0 with rfl | rfl <;> rcases hb1 with rfl | rfl <;> rcases hb2 with rfl | rfl <;> rcases hb3 with rfl | rfl <;> decide
theorem own_idx_4_3 (v0 v1 v2 v3 : Int32) (hb0 : v0 = (0 : Int32) ∨ v0 = (1 : Int32)) (hb1 : v1 = (0 : Int32) ∨ v1 = (1 : Int32)) (hb2 : v2 = (0 : Int32) ∨ v2 = (1 : Int32)) (hb3 : v3 = (0 : Int32) ∨ v3 = (1 : Int32)) : ¬ (own_ix4_3 v0 v1 v2 v3) < 0 ∧ (own_ix4_3 v0 v1 v2 v3) < (4 : Int32) := by
  rcases hb0 with rfl | rfl <;> rcases hb1 with rfl | rfl <;> rcases hb2 with rfl | rfl <;> rcases hb3 with rfl | rfl <;> decide
theorem own_idx_5_0 (v0 v1 v2 v3 v4 : Int32) (hb0 : v0 = (0 : Int32) ∨ v0 = (1 : Int32)) (hb1 : v1 = (0 : Int32) ∨ v1 = (1 : Int32)) (hb2 : v2 = (0 : Int32) ∨ v2 = (1 : Int32)) (hb3 : v3 = (0 : Int32) ∨ v3 = (1 : Int32)) (hb4 : v4 = (0 : Int32) ∨ v4 = (1 : Int32)) : ¬ (own_ix5_0 v0 v1 v2 v3 v4) < 0 ∧ (own_ix5_0 v0 v1 v2 v3 v4) < (5 : Int32) := by
  rcases hb0 with rfl | rfl <;> rcases hb1 with rfl | rfl <;> rcases hb2 with rfl | rfl <;> rcases hb3 with rfl | rfl <;> rcases hb4 with rfl | rfl <;> decide
theorem own_idx_5_1 (v0 v1 v2 v3 v4 : Int32) (hb0 : v0 = (0 : Int32) ∨ v0 = (1 : Int32)) (hb1 : v1 = (0 : Int32) ∨ v1 = (1 : Int32)) (hb2 : v2 = (0 : Int32) ∨ v2 = (1 : Int32)) (hb3 : v3 = (0 : Int32) ∨ v3 = (1 : Int32)) (hb4 : v4 = (0 : Int32) ∨ v4 = (1 : Int32)) : ¬ (own_ix5_1 v0 v1 v2 v3 v4) < 0 ∧ (own_ix5_1 v0 v1 v2 v3 v4) < (5 : Int32) := by
  rcases hb0 with rfl | rfl <;> rcases hb1 with rfl | rfl <;> rcases hb2 with rfl | rfl <;> rcases hb3 with rfl | rfl <;> rcases hb4 with rfl | rfl <;> decide
theorem own_idx_5_2 (v0 v1 v2 v3 v4 : Int32) (hb0 : v0 = (0 : Int32) ∨ v0 = (1 : Int32)) (hb1 : v1 = (0 : Int32) ∨ v1 = (1 : Int32)) (hb2 : v2 = (0 : Int32) ∨ v2 = (1 : Int32)) (hb3 : v3 = (0 : Int32) ∨ v3 = (1 : Int32)) (hb4 : v4 = (0 : Int32) ∨ v4 = (1 : Int32)) : ¬ (own_ix5_2 v0 v1 v2 v3 v4) < 0 ∧ (own_ix5_2 v0 v1 v2 v3 v4) < (5 : Int32) := by
  rcases hb0 with rfl | rfl <;> rcases hb1 with rfl | rfl <;> rcases hb2 with rfl | rfl <;> rcases hb3 with rfl | rfl <;> rcases hb4 with rfl | rfl <;> decide
theorem own_idx_5_3 (v0 v1 v2 v3 v4 : Int32) (hb0 : v0 = (0 : Int32) ∨ v0 = (1 : Int32)) (hb1 : v1 = (0 : Int32) ∨ v1 = (1 : Int32)) (hb2 : v2 = (0 : Int32) ∨ v2 = (1 : Int32)) (hb3 : v3 = (0 : Int32) ∨ v3 = (1 : Int32)) (hb4 : v4 = (0 : Int32) ∨ v4 = (1 : Int32)) : ¬ (own_ix5_3 v0 v1 v2 v3 v4) < 0 ∧ (own_ix5_3 v0 v1 v2 v3 v4) < (5 : Int32) := by
  rcases hb0 with rfl | rfl <;> rcases hb1 with rfl | rfl <;> rcases hb2 with rfl | rfl <;> rcases hb3 with rfl | rfl <;> rcases hb4 with rfl | rfl <;> decide
theorem own_idx_5_4 (v0 v1 v2 v3 v4 : Int32) (hb0 : v0 = (0 : Int32) ∨ v0 = (1 : Int32)) (hb1 : v1 = (0 : Int32) ∨ v1 = (1 : Int32)) (hb2 : v2 = (0 : Int32) ∨ v2 = (1 : Int32)) (hb3 : v3 = (0 : Int32) ∨ v3 = (1 : Int32)) (hb4 : v4 = (0 : Int32) ∨ v4 = (1 : Int32)) : ¬ (own_ix5_4 v0 v1 v2 v3 v4) < 0 ∧ (own_ix5_4 v0 v1 v2 v3 v4) < (5 : Int32) := by
  rcases hb0 with rfl | rfl <;> rcases hb1 with rfl | rfl <;> rcases hb2 with rfl | rfl <;> rcases hb3 with rfl | rfl <;> rcases hb4 with rfl | rfl <;> decide
theorem own_pos_0 (nn : Int32) (v0 v1 v2 v3 v4 : Int32) (hn : own_Six nn) (hb0 : v0 = (0 : Int32) ∨ v0 = (1 : Int32)) (hb1 : v1 = (0 : Int32) ∨ v1 = (1 : Int32)) (hb2 : v2 = (0 : Int32) ∨ v2 = (1 : Int32)) (hb3 : v3 = (0 : Int32) ∨ v3 = (1 : Int32)) (hb4 : v4 = (0 : Int32) ∨ v4 = (1 : Int32)) (hi : (0 : Int32) < nn) : ¬ (own_p0 nn v0 v1 v2 v3 v4) < (0 : Int32) ∧ (own_p0 nn v0 v1 v2 v3 v4) < nn ∧ own_G nn v0 v1 v2 v3 v4 ((own_p0 nn v0 v1 v2 v3 v4)).toNatClampNeg = .int (0 : Int32) := by
  rcases hn with rfl | rfl | rfl | rfl | rfl | rfl
  · exact absurd hi (by decide)
  · rcases hb0 with rfl | rfl <;> rcases hb1 with rfl | rfl <;> rcases hb2 with rfl | rfl <;> rcases hb3 with rfl | rfl <;> rcases hb4 with rfl | rfl <;> exact ⟨by decide, by decide, rfl⟩
  · rcases hb0 with rfl | rfl <;> rcases hb1 with rfl | rfl <;> rcases hb2 with rfl | rfl <;> rcases hb3 with rfl | rfl <;> rcases hb4 with rfl | rfl <;> exact ⟨by decide, by decide, rfl⟩
  · rcases hb0 with rfl | rfl <;> rcases hb1 with rfl | rfl <;> rcases hb2 with rfl | rfl <;> rcases hb3 with rfl | rfl <;> rcases hb4 with rfl | rfl <;> exact ⟨by decide, by decide, rfl⟩
  · rcases hb0 with rfl | rfl <;> rcases hb1 with rfl | rfl <;> rcases hb2 with rfl | rfl <;> rcases hb3 with rfl | rfl <;> rcases hb4 with rfl | rfl <;> exact ⟨by decide, by decide, rfl⟩
  · rcases hb0 with rfl | rfl <;> rcases hb1 with rfl | rfl <;> rcases hb2 with rfl | rfl <;> rcases hb3 with rfl | rfl <;> rcases hb4 with rfl | rfl <;> exact ⟨by decide, by decide, rfl⟩
theorem own_pos_1 (nn : Int32) (v0 v1 v2 v3 v4 : Int32) (hn : own_Six nn) (hb0 : v0 = (0 : Int32) ∨ v0 = (1 : Int32)) (hb1 : v1 = (0 : Int32) ∨ v1 = (1 : Int32)) (hb2 : v2 = (0 : Int32) ∨ v2 = (1 : Int32)) (hb3 : v3 = (0 : Int32) ∨ v3 = (1 : Int32)) (hb4 : v4 = (0 : Int32) ∨ v4 = (1 : Int32)) (hi : (1 : Int32) < nn) : ¬ (own_p1 nn v0 v1 v2 v3 v4) < (0 : Int32) ∧ (own_p1 nn v0 v1 v2 v3 v4) < nn ∧ own_G nn v0 v1 v2 v3 v4 ((own_p1 nn v0 v1 v2 v3 v4)).toNatClampNeg = .int (1 : Int32) := by
  rcases hn with rfl | rfl | rfl | rfl | rfl | rfl
  · exact absurd hi (by decide)
  · exact absurd hi (by decide)
  · rcases hb0 with rfl | rfl <;> rcases hb1 with rfl | rfl <;> rcases hb2 with rfl | rfl <;> rcases hb3 with rfl | rfl <;> rcases hb4 with rfl | rfl <;> exact ⟨by decide, by decide, rfl⟩
  · rcases hb0 with rfl | rfl <;> rcases hb1 with rfl | rfl <;> rcases hb2 with rfl | rfl <;> rcases hb3 with rfl | rfl <;> rcases hb4 with rfl | rfl <;> exact ⟨by decide, by decide, rfl⟩
  · rcases hb0 with rfl | rfl <;> rcases hb1 with rfl | rfl <;> rcases hb2 with rfl | rfl <;> rcases hb3 with rfl | rfl <;> rcases hb4 with rfl | rfl <;> exact ⟨by decide, by decide, rfl⟩
  · rcases hb0 with rfl | rfl <;> rcases hb1 with rfl | rfl <;> rcases hb2 with rfl | rfl <;> rcases hb3 with rfl | rfl <;> rcases hb4 with rfl | rfl <;> exact ⟨by decide, by decide, rfl⟩
theorem own_pos_2 (nn : Int32) (v0 v1 v2 v3 v4 : Int32) (hn : own_Six nn) (hb0 : v0 = (0 : Int32) ∨ v0 = (1 : Int32)) (hb1 : v1 = (0 : Int32) ∨ v1 = (1 : Int32)) (hb2 : v2 = (0 : Int32) ∨ v2 = (1 : Int32)) (hb3 : v3 = (0 : Int32) ∨ v3 = (1 : Int32)) (hb4 : v4 = (0 : Int32) ∨ v4 = (1 : Int32)) (hi : (2 : Int32) < nn) : ¬ (own_p2 nn v0 v1 v2 v3 v4) < (0 : Int32) ∧ (own_p2 nn v0 v1 v2 v3 v4) < nn ∧ own_G nn v0 v1 v2 v3 v4 ((own_p2 nn v0 v1 v2 v3 v4)).toNatClampNeg = .int (2 : Int32) := by
  rcases hn with rfl | rfl | rfl | rfl | rfl | rfl
  · exact absurd hi (by decide)
  · exact absurd hi (by decide)
  · exact absurd hi (by decide)
  · rcases hb0 with rfl | rfl <;> rcases hb1 with rfl | rfl <;> rcases hb2 with rfl | rfl <;> rcases hb3 with rfl | rfl <;> rcases hb4 with rfl | rfl <;> exact ⟨by decide, by decide, rfl⟩
  · rcases hb0 with rfl | rfl <;> rcases hb1 with rfl | rfl <;> rcases hb2 with rfl | rfl <;> rcases hb3 with rfl | rfl <;> rcases hb4 with rfl | rfl <;> exact ⟨by decide, by decide, rfl⟩
  · rcases hb0 with rfl | rfl <;> rcases hb1 with rfl | rfl <;> rcases hb2 with rfl | rfl <;> rcases hb3 with rfl | rfl <;> rcases hb4 with rfl | rfl <;> exact ⟨by decide, by decide, rfl⟩
theorem own_pos_3 (nn : Int32) (v0 v1 v2 v3 v4 : Int32) (hn : own_Six nn) (hb0 : v0 = (0 : Int32) ∨ v0 = (1 : Int32)) (hb1 : v1 = (0 : Int32) ∨ v1 = (1 : Int32)) (hb2 : v2 = (0 : Int32) ∨ v2 = (1 : Int32)) (hb3 : v3 = (0 : Int32) ∨ v3 = (1 : Int32)) (hb4 : v4 = (0 : Int32) ∨ v4 = (1 : Int32)) (hi : (3 : Int32) < nn) : ¬ (own_p3 nn v0 v1 v2 v3 v4) < (0 : Int32) ∧ (own_p3 nn v0 v1 v2 v3 v4) < nn ∧ own_G nn v0 v1 v2 v3 v4 ((own_p3 nn v0 v1 v2 v3 v4)).toNatClampNeg = .int (3 : Int32) := by
  rcases hn with rfl | rfl | rfl | rfl | rfl | rfl
  · exact absurd hi (by decide)
  · exact absurd hi (by decide)
  · exact absurd hi (by decide)
  · exact absurd hi (by decide)
  · rcases hb0 with rfl | rfl <;> rcases hb1 with rfl | rfl <;> rcases hb2 with rfl | rfl <;> rcases hb3 with rfl | rfl <;> rcases hb4 with rfl | rfl <;> exact ⟨by decide, by decide, rfl⟩
  · rcases hb0 with rfl | rfl <;> rcases hb1 with rfl | rfl <;> rcases hb2 with rfl | rfl <;> rcases hb3 with rfl | rfl <;> rcases hb4 with rfl | rfl <;> exact ⟨by decide, by decide, rfl⟩
theorem own_pos_4 (nn : Int32) (v0 v1 v2 v3 v4 : Int32) (hn : own_Six nn) (hb0 : v0 = (0 : Int32) ∨ v0 = (1 : Int32)) (hb1 : v1 = (0 : Int32) ∨ v1 = (1 : Int32)) (hb2 : v2 = (0 : Int32) ∨ v2 = (1 : Int32)) (hb3 : v3 = (0 : Int32) ∨ v3 = (1 : Int32)) (hb4 : v4 = (0 : Int32) ∨ v4 = (1 : Int32)) (hi : (4 : Int32) < nn) : ¬ (own_p4 nn v0 v1 v2 v3 v4) < (0 : Int32) ∧ (own_p4 nn v0 v1 v2 v3 v4) < nn ∧ own_G nn v0 v1 v2 v3 v4 ((own_p4 nn v0 v1 v2 v3 v4)).toNatClampNeg = .int (4 : Int32) := by
  rcases hn with rfl | rfl | rfl | rfl | rfl | rfl
  · exact absurd hi (by decide)
  · exact absurd hi (by decide)
  · exact absurd hi (by decide)
  · exact absurd hi (by decide)
  · exact absurd hi (by decide)
  · rcases hb0 with rfl | rfl <;> rcases hb1 with rfl | rfl <;> rcases hb2 with rfl | rfl <;> rcases hb3 with rfl | rfl <;> rcases hb4 with rfl | rfl <;> exact ⟨by decide, by decide, rfl⟩
theorem own_nar01 {x : Int32} (h : x = (0 : Int32) ∨ x = (1 : Int32)) : nar .boolean x = x := by rcases h with rfl | rfl <;> decide
theorem own_fit01 {x : Int32} (h : x = (0 : Int32) ∨ x = (1 : Int32)) : fits .boolean (.int x) = true := by rcases h with rfl | rfl <;> rfl
theorem own_six (x : Int32) : own_Six ((x &&& (2147483647 : Int32)) % (6 : Int32)) := by
  have a1 := (c_and x 2147483647 (by decide)).1
  have a2 := (c_irem (x &&& 2147483647) 6 6 (by decide)).1 a1
  have e : ∀ k : Int32, ((x &&& 2147483647) % 6) = k ↔ (x &&& 2147483647).toInt % 6 = k.toInt := fun k => by rw [← Int32.toInt_inj, a2]
  simp only [own_Six, e]
  rw [show (0 : Int32).toInt = 0 from by decide, show (1 : Int32).toInt = 1 from by decide, show (2 : Int32).toInt = 2 from by decide, show (3 : Int32).toInt = 3 from by decide, show (4 : Int32).toInt = 4 from by decide, show (5 : Int32).toInt = 5 from by decide]
  omega
def Qr (r : Value) (h0 : Heap) (n0 : Nat) (v : Option Value) (h : Heap) (L : List Loc) : Prop := v = some r ∧ Fr n0 L ∧ h = h0
def Qi (Z : State) (a : Addr) (h0 : Heap) (n0 : Nat) (v : Option Value) (h : Heap) (L : List Loc) : Prop := ∃ b kb, v = none ∧ Fr n0 L ∧ Keep h0 h [a] ∧ a ≠ b ∧ n0 ≤ b ∧ Fld Z h a "com/example/tube2/tube2/trace/BooleanSignal" "values" "[Z" (.ref b) ∧ Fld Z h a "com/example/tube2/tube2/trace/BooleanSignal" "size" "I" (.int (0 : Int32)) ∧ Arv Z h b kb .boolean (1024 : Int32) [] (.int (0 : Int32))
set_option maxRecDepth 65536 in
set_option maxHeartbeats 40000000 in
theorem rm1 (l : Launch) (Z : State) (a0 : Array Value) (hw : ∀ d ∈ tables_1, d.before a0 Z = true) (ws : List Jvm.Cond) (a nm : Addr) (h0 : Heap) (n0 : Nat) (Z0 : n0 ≤ h0.size) (E : Exa Z h0 a "com/example/tube2/tube2/trace/BooleanSignal") (F1 : Fld Z h0 a "com/example/tube2/tube2/trace/BooleanSignal" "values" "[Z" .null) (F2 : Fld Z h0 a "com/example/tube2/tube2/trace/BooleanSignal" "size" "I" (.int (0 : Int32))) (F3 : Fld Z h0 a "com/example/tube2/tube2/trace/BooleanSignal" "name" "Ljava/lang/String;" .null) (ga : n0 ≤ a) :
    MetFree l (⟨"com/example/tube2/tube2/trace/BooleanSignal", "<init>", "(Ljava/lang/String;)V"⟩ : MethodName) (head1 (Jvm.Cond.code (⟨"com/example/tube2/tube2/trace/BooleanSignal", "<init>", "(Ljava/lang/String;)V"⟩ : MethodName) prog_91_method_1_code 2 none :: ws) ({ frames := 1, cells := 1, slots := 1024, locals := 12 } : Room)) (fun aa UU => aa = #[(.ref a), (.ref nm)] ∧ Z.Warmed39 UU.vm ∧ UU.heap = h0) (fun _ _ _ _ _ => True) (fun _ UU oo U' => ∃ v L, oo = .returned v ∧ Qi Z a h0 n0 v U'.heap L ∧ FrameEnd UU oo U' L ({ frames := 1, cells := 1, slots := 1024, locals := 12 } : Room).cells ({ frames := 1, cells := 1, slots := 1024, locals := 12 } : Room).slots) := by
  refine MetFree.of_bodySF (plainFor_of_name pn_0) hisR ?_
  intro p e s m args below meth c s₁ Bd hml0 hP hK
  obtain ⟨rfl, hZ, hh⟩ := hP
  have hx := Bd.exec
  have hby := Bd.bytes
  have hml : c.maxLocals = 2 := hml0
  have hown : s.vm.findClass "com/example/tube2/tube2/trace/BooleanSignal" = some m.cls := findClass_of_methodNamed Bd.named
  have hnm := (name_of_methodNamed Bd.named Bd.method).1
  have X0 : Stand p l e ({ frames := 1, cells := 1, slots := 1024, locals := 12 } : Room) s m #[(.ref a), (.ref nm)] below meth c s₁ [] 0 0 := Stand.of_body Bd
  have e0 : s₁.heap = h0 := by rw [← hh, Bd.state]; rfl
  have N0 := Fr.nil n0
  obtain ⟨A0, hA0⟩ : ∃ A, A = s₁.setTop (entryFrame m #[(.ref a), (.ref nm)] 2) := ⟨_, rfl⟩
  have G0 : Go p e below A0 (s₁.setTop (mkF m 0 #[.val (.ref a), .val (.ref nm)] [])) := fun tq kq => by rw [hA0]; exact castTop (ef_rm1 m a nm) kq
  have G1 : Go p e below A0 (s₁.setTop (mkF m 1 #[.val (.ref a), .val (.ref nm)] [(.ref a)])) := fun tq kq => G0 tq (by
    refine XS.aloadN X0.here hx rfl (hb hby d1_0) rfl rfl ?_
    show Steps p.tables e below (s₁.setTop (mkF m 1 #[.val (.ref a), .val (.ref nm)] [(.ref a)])) _
    exact kq)
  obtain ⟨T2, X2, e2, st2⟩ := initO X0 hx hZ hown (hw _ (List.mem_of_getElem? (i := 15) rfl)) (hw _ (List.mem_of_getElem? (i := 16) rfl)) (hw _ (List.mem_of_getElem? (i := 17) rfl)) e0 (g := (mkF m 1 #[.val (.ref a), .val (.ref nm)] [(.ref a)])) rfl (by rw [hml]; rfl) rfl (hb hby d1_1) (by decide) (W := 0) (by show 2 * 0 + _ ≤ _; exact Nat.le_of_eq rfl) (by decide)
  have G3 : Go p e below A0 (T2.setTop (mkF m 4 #[.val (.ref a), .val (.ref nm)] [])) := fun tq kq => G1 tq (st2 _ kq)
  have G4 : Go p e below A0 (T2.setTop (mkF m 8 #[.val (.ref a), .val (.ref nm)] [(.int (1024 : Int32) ), (.ref a)])) := fun tq kq => G3 tq (by
    refine XS.aloadN X2.here hx rfl (hb hby d1_4) rfl rfl ?_
    show Steps p.tables e below (T2.setTop (mkF m 5 #[.val (.ref a), .val (.ref nm)] [(.ref a)])) _
    refine XS.sipush X2.here hx rfl (hb hby d1_5) ?_
    show Steps p.tables e below (T2.setTop (mkF m 8 #[.val (.ref a), .val (.ref nm)] [(.int (1024 : Int32)), (.ref a)])) _
    exact kq)
  obtain ⟨T5, h5, k5, X5, e5, E5, A5, st5⟩ := newP X2 hx hZ (hw _ (List.mem_of_getElem? (i := 18) rfl)) e2 (g := (mkF m 8 #[.val (.ref a), .val (.ref nm)] [(.int (1024 : Int32) ), (.ref a)])) rfl (hb hby d1_8) rfl (by decide) (cap := 1024) (by decide) (by decide) (by decide) (by decide)
  obtain ⟨b5, g5⟩ : ∃ z, z = h0.size := ⟨_, rfl⟩
  rw [← g5] at A5 st5
  have sz_b5 : h0.size ≤ b5 := Nat.le_trans (Nat.le_refl h0.size) (Nat.le_of_eq g5.symm)
  have g_b5 : n0 ≤ b5 := Nat.le_trans Z0 (Nat.le_of_eq g5.symm)
  have ne_a_b5 : a ≠ b5 := Nat.ne_of_lt (Nat.lt_of_lt_of_le E.lt (Nat.le_of_eq g5.symm))
  have V5 : Arv Z h5 b5 k5 .boolean (1024 : Int32)  [] (.int (0 : Int32)) := Arv.new A5 (by decide)
  have G6 : Go p e below A0 (T5.setTop (mkF m 10 #[.val (.ref a), .val (.ref nm)] [(.ref b5), (.ref a)])) := fun tq kq => G4 tq (st5 _ kq)
  have f7 := (E.ext E5)
  have f8 := (F1.ext E5)
  obtain ⟨T9, h9, X9, e9, W9, st9⟩ := putF X5 hx hZ hown (host := "") (Or.inl (hw _ (List.mem_of_getElem? (i := 19) rfl))) Via.refl e5 f8 f7 (Or.inl (hw _ (List.mem_of_getElem? (i := 20) rfl))) (hw _ (List.mem_of_getElem? (i := 2) rfl)) (ty := (.array .boolean)) (by decide) rfl rfl (g := (mkF m 10 #[.val (.ref a), .val (.ref nm)] [(.ref b5), (.ref a)])) rfl rfl (hb hby d1_10)
  have N9 := Fr.snoc X9 N0 ga
  have fw9 := f8.same W9
  have G10 : Go p e below A0 (T9.setTop (mkF m 13 #[.val (.ref a), .val (.ref nm)] [])) := fun tq kq => G6 tq (st9 _ kq)
  have G11 : Go p e below A0 (T9.setTop (mkF m 15 #[.val (.ref a), .val (.ref nm)] [(.ref nm), (.ref a)])) := fun tq kq => G10 tq (by
    refine XS.aloadN X9.here hx rfl (hb hby d1_13) rfl rfl ?_
    show Steps p.tables e below (T9.setTop (mkF m 14 #[.val (.ref a), .val (.ref nm)] [(.ref a)])) _
    refine XS.aloadN X9.here hx rfl (hb hby d1_14) rfl rfl ?_
    show Steps p.tables e below (T9.setTop (mkF m 15 #[.val (.ref a), .val (.ref nm)] [(.ref nm), (.ref a)])) _
    exact kq)
  have f12 := (f7.wr W9)
  have f13 := ((F3.ext E5).other W9 (Or.inr (slot_ne (Or.inr (hw _ (List.mem_of_getElem? (i := 22) rfl))) (Or.inl (hw _ (List.mem_of_getElem? (i := 20) rfl))) (by decide) (t := (.object "java/lang/String")) (t' := (.array .boolean)) (by decide) (by decide))))
  obtain ⟨T14, h14, X14, e14, W14, st14⟩ := putF X9 hx hZ hown (host := "") (Or.inl (hw _ (List.mem_of_getElem? (i := 21) rfl))) Via.refl e9 f13 f12 (Or.inr ⟨(hw _ (List.mem_of_getElem? (i := 22) rfl)), rfl, hnm⟩) (hw _ (List.mem_of_getElem? (i := 2) rfl)) (ty := (.object "java/lang/String")) (by decide) rfl rfl (g := (mkF m 15 #[.val (.ref a), .val (.ref nm)] [(.ref nm), (.ref a)])) rfl rfl (hb hby d1_15)
  have N14 := Fr.snoc X14 N9 ga
  have fw14 := f13.same W14
  have G15 : Go p e below A0 (T14.setTop (mkF m 18 #[.val (.ref a), .val (.ref nm)] [])) := fun tq kq => G11 tq (st14 _ kq)
  have f16 := (fw9.other W14 (Or.inr (slot_ne (Or.inl (hw _ (List.mem_of_getElem? (i := 20) rfl))) (Or.inr (hw _ (List.mem_of_getElem? (i := 22) rfl))) (by decide) (t := (.array .boolean)) (t' := (.object "java/lang/String")) (by decide) (by decide))))
  have f17 := (((F2.ext E5).other W9 (Or.inr (slot_ne (Or.inl (hw _ (List.mem_of_getElem? (i := 29) rfl))) (Or.inl (hw _ (List.mem_of_getElem? (i := 20) rfl))) (by decide) (t := .int) (t' := (.array .boolean)) (by decide) (by decide)))).other W14 (Or.inr (slot_ne (Or.inl (hw _ (List.mem_of_getElem? (i := 29) rfl))) (Or.inr (hw _ (List.mem_of_getElem? (i := 22) rfl))) (by decide) (t := .int) (t' := (.object "java/lang/String")) (by decide) (by decide))))
  have f18 := ((V5.other W9 (Ne.symm ne_a_b5)).other W14 (Ne.symm ne_a_b5))
  obtain ⟨fs, hr, hrun, hended, hW, hsame⟩ := X14.leave (v := none) (fun _ => rfl)
  refine ⟨_, _, (by rw [← hA0]; exact G15 _ (X14.returnOut hx Bd.returns (hb hby d1_18) hr)), hrun, hended, _, _, rfl, ?_, ⟨_, rfl⟩, hW, hsame.mono (by decide) (by decide)⟩
  show Qi Z a h0 n0 _ T14.heap _
  rw [e14]
  exact ⟨b5, k5, rfl, N14, ((((Keep.refl h0 [a]).ext E5).wr W9 (Or.inl (List.mem_of_getElem? (i := 0) rfl))).wr W14 (Or.inl (List.mem_of_getElem? (i := 0) rfl))), ne_a_b5, g_b5, f16, f17, f18⟩
def Qa0 (Z : State) (a b : Addr) (kb : ClassId) (v0 : Int32) (h0 : Heap) (n0 : Nat) (v : Option Value) (h : Heap) (L : List Loc) : Prop := v = none ∧ Fr n0 L ∧ Keep h0 h [a, b] ∧ Fld Z h a "com/example/tube2/tube2/trace/BooleanSignal" "values" "[Z" (.ref b) ∧ Fld Z h a "com/example/tube2/tube2/trace/BooleanSignal" "size" "I" (.int (1 : Int32)) ∧ Arv Z h b kb .boolean (1024 : Int32) [(.int v0)] (.int (0 : Int32))
set_option maxRecDepth 65536 in
set_option maxHeartbeats 40000000 in
theorem rmA0 (l : Launch) (Z : State) (a0 : Array Value) (hw : ∀ d ∈ tables_1, d.before a0 Z = true) (ws : List Jvm.Cond) (a b : Addr) (kb : ClassId) (v0 : Int32) (h0 : Heap) (n0 : Nat) (Z0 : n0 ≤ h0.size) (E : Exa Z h0 a "com/example/tube2/tube2/trace/BooleanSignal") (F1 : Fld Z h0 a "com/example/tube2/tube2/trace/BooleanSignal" "values" "[Z" (.ref b)) (F2 : Fld Z h0 a "com/example/tube2/tube2/trace/BooleanSignal" "size" "I" (.int (0 : Int32))) (A : Arv Z h0 b kb .boolean (1024 : Int32) [] (.int (0 : Int32))) (ga : n0 ≤ a) (gb : n0 ≤ b) (hab : a ≠ b) (hbv : v0 = (0 : Int32) ∨ v0 = (1 : Int32)) :
    MetFree l (⟨"com/example/tube2/tube2/trace/BooleanSignal", "add", "(Z)V"⟩ : MethodName) (head1 (Jvm.Cond.code (⟨"com/example/tube2/tube2/trace/BooleanSignal", "add", "(Z)V"⟩ : MethodName) prog_91_method_2_code 2 none :: ws) ({ frames := 0, cells := 0, slots := 0, locals := 0 } : Room)) (fun aa UU => aa = #[(.ref a), (.int v0)] ∧ Z.Warmed39 UU.vm ∧ UU.heap = h0) (fun _ _ _ _ _ => True) (fun _ UU oo U' => ∃ v L, oo = .returned v ∧ Qa0 Z a b kb v0 h0 n0 v U'.heap L ∧ FrameEnd UU oo U' L ({ frames := 0, cells := 0, slots := 0, locals := 0 } : Room).cells ({ frames := 0, cells := 0, slots := 0, locals := 0 } : Room).slots) := by
  refine MetFree.of_bodySF (plainFor_of_name pn_0) hisR ?_
  intro p e s m args below meth c s₁ Bd hml0 hP hK
  obtain ⟨rfl, hZ, hh⟩ := hP
  have hx := Bd.exec
  have hby := Bd.bytes
  have hml : c.maxLocals = 2 := hml0
  have hown : s.vm.findClass "com/example/tube2/tube2/trace/BooleanSignal" = some m.cls := findClass_of_methodNamed Bd.named
  have hnm := (name_of_methodNamed Bd.named Bd.method).1
  have X0 : Stand p l e ({ frames := 0, cells := 0, slots := 0, locals := 0 } : Room) s m #[(.ref a), (.int v0)] below meth c s₁ [] 0 0 := Stand.of_body Bd
  have e0 : s₁.heap = h0 := by rw [← hh, Bd.state]; rfl
  have N0 := Fr.nil n0
  obtain ⟨A0, hA0⟩ : ∃ A, A = s₁.setTop (entryFrame m #[(.ref a), (.int v0)] 2) := ⟨_, rfl⟩
  have G0 : Go p e below A0 (s₁.setTop (mkF m 0 #[.val (.ref a), .val (.int v0)] [])) := fun tq kq => by rw [hA0]; exact castTop (ef_rmA0 m a v0) kq
  have Ap : Arv Z h0 b kb .boolean (1024 : Int32) [(.int (0 : Int32))] (.int (0 : Int32)) := A.pad (pad_rep [] (.int (0 : Int32)) 1)
  have G19 : Go p e below A0 (s₁.setTop (mkF m 1 #[.val (.ref a), .val (.int v0)] [(.ref a)])) := fun tq kq => G0 tq (by
    refine XS.aloadN X0.here hx rfl (hb hby d5_0) rfl rfl ?_
    show Steps p.tables e below (s₁.setTop (mkF m 1 #[.val (.ref a), .val (.int v0)] [(.ref a)])) _
    exact kq)
  obtain ⟨T20, X20, e20, st20⟩ := getF X0 hx hZ hown (host := "") (Or.inl (hw _ (List.mem_of_getElem? (i := 28) rfl))) Via.refl e0 F2 (g := (mkF m 1 #[.val (.ref a), .val (.int v0)] [(.ref a)])) rfl rfl (hb hby d5_1)
  have G21 : Go p e below A0 (T20.setTop (mkF m 4 #[.val (.ref a), .val (.int v0)] [(.int (0 : Int32))])) := fun tq kq => G19 tq (st20 _ kq)
  have G22 : Go p e below A0 (T20.setTop (mkF m 5 #[.val (.ref a), .val (.int v0)] [(.ref a), (.int (0 : Int32))])) := fun tq kq => G21 tq (by
    refine XS.aloadN X20.here hx rfl (hb hby d5_4) rfl rfl ?_
    show Steps p.tables e below (T20.setTop (mkF m 5 #[.val (.ref a), .val (.int v0)] [(.ref a), (.int (0 : Int32))])) _
    exact kq)
  obtain ⟨T23, X23, e23, st23⟩ := getF X20 hx hZ hown (host := "") (Or.inl (hw _ (List.mem_of_getElem? (i := 19) rfl))) Via.refl e20 F1 (g := (mkF m 5 #[.val (.ref a), .val (.int v0)] [(.ref a), (.int (0 : Int32))])) rfl rfl (hb hby d5_5)
  have G24 : Go p e below A0 (T23.setTop (mkF m 8 #[.val (.ref a), .val (.int v0)] [(.ref b), (.int (0 : Int32))])) := fun tq kq => G22 tq (st23 _ kq)
  obtain ⟨cl25, Ar25, q25, S25, M25, H25, Gf25⟩ := id Ap
  have G26 : Go p e below A0 (T23.setTop (mkF m 30 #[.val (.ref a), .val (.int v0)] [(.ref a)])) := fun tq kq => G24 tq (by
    refine X23.arraylength hx (by rw [e23]; exact Ar25.1) (State.isArrayOf_alike hZ.alike Ar25.2.1) (g := (mkF m 8 #[.val (.ref a), .val (.int v0)] [(.ref b), (.int (0 : Int32))])) rfl rfl (hb hby d5_8) _ ?_
    rw [len_of S25 M25]
    show Steps p.tables e below (T23.setTop (mkF m 9 #[.val (.ref a), .val (.int v0)] [(.int (1024 : Int32)), (.int (0 : Int32))])) _
    refine XS.icmpYes X23.here hx rfl (pc0 := 9) (pc' := 29) rfl (hb hby d5_9) rfl (by decide) (by decide) (by decide) ?_
    show Steps p.tables e below (T23.setTop (mkF m 29 #[.val (.ref a), .val (.int v0)] [])) _
    refine XS.aloadN X23.here hx rfl (hb hby d5_29) rfl rfl ?_
    show Steps p.tables e below (T23.setTop (mkF m 30 #[.val (.ref a), .val (.int v0)] [(.ref a)])) _
    exact kq)
  obtain ⟨T27, X27, e27, st27⟩ := getF X23 hx hZ hown (host := "") (Or.inl (hw _ (List.mem_of_getElem? (i := 19) rfl))) Via.refl e23 F1 (g := (mkF m 30 #[.val (.ref a), .val (.int v0)] [(.ref a)])) rfl rfl (hb hby d5_30)
  have G28 : Go p e below A0 (T27.setTop (mkF m 33 #[.val (.ref a), .val (.int v0)] [(.ref b)])) := fun tq kq => G26 tq (st27 _ kq)
  have G29 : Go p e below A0 (T27.setTop (mkF m 35 #[.val (.ref a), .val (.int v0)] [(.ref a), (.ref a), (.ref b)])) := fun tq kq => G28 tq (by
    refine XS.aloadN X27.here hx rfl (hb hby d5_33) rfl rfl ?_
    show Steps p.tables e below (T27.setTop (mkF m 34 #[.val (.ref a), .val (.int v0)] [(.ref a), (.ref b)])) _
    refine XS.dup X27.here hx rfl (hb hby d5_34) rfl rfl ?_
    show Steps p.tables e below (T27.setTop (mkF m 35 #[.val (.ref a), .val (.int v0)] [(.ref a), (.ref a), (.ref b)])) _
    exact kq)
  obtain ⟨T30, X30, e30, st30⟩ := getF X27 hx hZ hown (host := "") (Or.inl (hw _ (List.mem_of_getElem? (i := 28) rfl))) Via.refl e27 F2 (g := (mkF m 35 #[.val (.ref a), .val (.int v0)] [(.ref a), (.ref a), (.ref b)])) rfl rfl (hb hby d5_35)
  have G31 : Go p e below A0 (T30.setTop (mkF m 38 #[.val (.ref a), .val (.int v0)] [(.int (0 : Int32)), (.ref a), (.ref b)])) := fun tq kq => G29 tq (st30 _ kq)
  have G32 : Go p e below A0 (T30.setTop (mkF m 41 #[.val (.ref a), .val (.int v0)] [(.int (1 : Int32)), (.ref a), (.int (0 : Int32)), (.ref b)])) := fun tq kq => G31 tq (by
    refine XS.dupX1 X30.here hx rfl (hb hby d5_38) rfl rfl rfl ?_
    show Steps p.tables e below (T30.setTop (mkF m 39 #[.val (.ref a), .val (.int v0)] [(.int (0 : Int32)), (.ref a), (.int (0 : Int32)), (.ref b)])) _
    refine XS.iconst X30.here hx rfl (hb hby d5_39) ?_
    show Steps p.tables e below (T30.setTop (mkF m 40 #[.val (.ref a), .val (.int v0)] [(.int (1 : Int32)), (.int (0 : Int32)), (.ref a), (.int (0 : Int32)), (.ref b)])) _
    refine XS.iadd X30.here hx rfl (hb hby d5_40) rfl ?_
    show Steps p.tables e below (T30.setTop (mkF m 41 #[.val (.ref a), .val (.int v0)] [(.int ((0 : Int32) + (1 : Int32))), (.ref a), (.int (0 : Int32)), (.ref b)])) _
    rw [show ((0 : Int32) + (1 : Int32)) = (1 : Int32) from (by decide : ((0 : Int32) + (1 : Int32)) = (1 : Int32))]
    show Steps p.tables e below (T30.setTop (mkF m 41 #[.val (.ref a), .val (.int v0)] [(.int (1 : Int32)), (.ref a), (.int (0 : Int32)), (.ref b)])) _
    exact kq)
  obtain ⟨T33, h33, X33, e33, W33, st33⟩ := putF X30 hx hZ hown (host := "") (Or.inl (hw _ (List.mem_of_getElem? (i := 28) rfl))) Via.refl e30 F2 E (Or.inl (hw _ (List.mem_of_getElem? (i := 29) rfl))) (hw _ (List.mem_of_getElem? (i := 2) rfl)) (ty := .int) (by decide) rfl rfl (g := (mkF m 41 #[.val (.ref a), .val (.int v0)] [(.int (1 : Int32)), (.ref a), (.int (0 : Int32)), (.ref b)])) rfl rfl (hb hby d5_41)
  have N33 := Fr.snoc X33 N0 ga
  have fw33 := F2.same W33
  have G34 : Go p e below A0 (T33.setTop (mkF m 44 #[.val (.ref a), .val (.int v0)] [(.int (0 : Int32)), (.ref b)])) := fun tq kq => G32 tq (st33 _ kq)
  have G35 : Go p e below A0 (T33.setTop (mkF m 45 #[.val (.ref a), .val (.int v0)] [(.int v0), (.int (0 : Int32)), (.ref b)])) := fun tq kq => G34 tq (by
    refine XS.iloadN X33.here hx rfl (hb hby d5_44) rfl ?_
    show Steps p.tables e below (T33.setTop (mkF m 45 #[.val (.ref a), .val (.int v0)] [(.int v0), (.int (0 : Int32)), (.ref b)])) _
    exact kq)
  have f36 := (Ap.other W33 (Ne.symm hab))
  obtain ⟨cl37, Ar37, q37, S37, M37, H37, Gf37⟩ := id f36
  have hi38 : ¬ ((0 : Int32) < 0 ∨ cl37.slots.size ≤ ((0 : Int32)).toNatClampNeg) := (inb_of S37 ⟨by decide, by decide⟩)
  obtain ⟨T39, h39, X39, e39, W39, st39⟩ := stZ X33 hx hZ e33 Ar37 (j := (0 : Int32)) hi38 (g := (mkF m 45 #[.val (.ref a), .val (.int v0)] [(.int v0), (.int (0 : Int32)), (.ref b)])) rfl rfl (hb hby d5_45)
  rw [show nar .boolean v0 = v0 from own_nar01 hbv] at W39
  have N39 := Fr.snoc X39 N33 gb
  have V39 := Arv.set Ar37 q37 S37 M37 H37 Gf37 (own_fit01 hbv) W39 0 rfl (Nat.le_of_ble_eq_true rfl)
  have V39' : Arv Z h39 b kb .boolean (1024 : Int32) [(.int v0)] (.int (0 : Int32)) := by exact V39
  have G40 : Go p e below A0 (T39.setTop (mkF m 46 #[.val (.ref a), .val (.int v0)] [])) := fun tq kq => G35 tq (st39 _ kq)
  have f41 := ((F1.other W33 (Or.inr (slot_ne (Or.inl (hw _ (List.mem_of_getElem? (i := 20) rfl))) (Or.inl (hw _ (List.mem_of_getElem? (i := 29) rfl))) (by decide) (t := (.array .boolean)) (t' := .int) (by decide) (by decide)))).other W39 (Or.inl hab))
  have f42 := (fw33.other W39 (Or.inl hab))
  obtain ⟨fs, hr, hrun, hended, hW, hsame⟩ := X39.leave (v := none) (fun _ => rfl)
  refine ⟨_, _, (by rw [← hA0]; exact G40 _ (X39.returnOut hx Bd.returns (hb hby d5_46) hr)), hrun, hended, _, _, rfl, ?_, ⟨_, rfl⟩, hW, hsame.mono (by decide) (by decide)⟩
  show Qa0 Z a b kb v0 h0 n0 _ T39.heap _
  rw [e39]
  exact ⟨rfl, N39, (((Keep.refl h0 [a, b]).wr W33 (Or.inl (List.mem_of_getElem? (i := 0) rfl))).wr W39 (Or.inl (List.mem_of_getElem? (i := 1) rfl))), f41, f42, V39'⟩
def Qa1 (Z : State) (a b : Addr) (kb : ClassId) (v0 v1 : Int32) (h0 : Heap) (n0 : Nat) (v : Option Value) (h : Heap) (L : List Loc) : Prop := v = none ∧ Fr n0 L ∧ Keep h0 h [a, b] ∧ Fld Z h a "com/example/tube2/tube2/trace/BooleanSignal" "values" "[Z" (.ref b) ∧ Fld Z h a "com/example/tube2/tube2/trace/BooleanSignal" "size" "I" (.int (2 : Int32)) ∧ Arv Z h b kb .boolean (1024 : Int32) [(.int v0), (.int v1)] (.int (0 : Int32))
set_option maxRecDepth 65536 in
set_option maxHeartbeats 40000000 in
theorem rmA1 (l : Launch) (Z : State) (a0 : Array Value) (hw : ∀ d ∈ tables_1, d.before a0 Z = true) (ws : List Jvm.Cond) (a b : Addr) (kb : ClassId) (v0 v1 : Int32) (h0 : Heap) (n0 : Nat) (Z0 : n0 ≤ h0.size) (E : Exa Z h0 a "com/example/tube2/tube2/trace/BooleanSignal") (F1 : Fld Z h0 a "com/example/tube2/tube2/trace/BooleanSignal" "values" "[Z" (.ref b)) (F2 : Fld Z h0 a "com/example/tube2/tube2/trace/BooleanSignal" "size" "I" (.int (1 : Int32))) (A : Arv Z h0 b kb .boolean (1024 : Int32) [(.int v0)] (.int (0 : Int32))) (ga : n0 ≤ a) (gb : n0 ≤ b) (hab : a ≠ b) (hbv : v1 = (0 : Int32) ∨ v1 = (1 : Int32)) :
    MetFree l (⟨"com/example/tube2/tube2/trace/BooleanSignal", "add", "(Z)V"⟩ : MethodName) (head1 (Jvm.Cond.code (⟨"com/example/tube2/tube2/trace/BooleanSignal", "add", "(Z)V"⟩ : MethodName) prog_91_method_2_code 2 none :: ws) ({ frames := 0, cells := 0, slots := 0, locals := 0 } : Room)) (fun aa UU => aa = #[(.ref a), (.int v1)] ∧ Z.Warmed39 UU.vm ∧ UU.heap = h0) (fun _ _ _ _ _ => True) (fun _ UU oo U' => ∃ v L, oo = .returned v ∧ Qa1 Z a b kb v0 v1 h0 n0 v U'.heap L ∧ FrameEnd UU oo U' L ({ frames := 0, cells := 0, slots := 0, locals := 0 } : Room).cells ({ frames := 0, cells := 0, slots := 0, locals := 0 } : Room).slots) := by
  refine MetFree.of_bodySF (plainFor_of_name pn_0) hisR ?_
  intro p e s m args below meth c s₁ Bd hml0 hP hK
  obtain ⟨rfl, hZ, hh⟩ := hP
  have hx := Bd.exec
  have hby := Bd.bytes
  have hml : c.maxLocals = 2 := hml0
  have hown : s.vm.findClass "com/example/tube2/tube2/trace/BooleanSignal" = some m.cls := findClass_of_methodNamed Bd.named
  have hnm := (name_of_methodNamed Bd.named Bd.method).1
  have X0 : Stand p l e ({ frames := 0, cells := 0, slots := 0, locals := 0 } : Room) s m #[(.ref a), (.int v1)] below meth c s₁ [] 0 0 := Stand.of_body Bd
  have e0 : s₁.heap = h0 := by rw [← hh, Bd.state]; rfl
  have N0 := Fr.nil n0
  obtain ⟨A0, hA0⟩ : ∃ A, A = s₁.setTop (entryFrame m #[(.ref a), (.int v1)] 2) := ⟨_, rfl⟩
  have G0 : Go p e below A0 (s₁.setTop (mkF m 0 #[.val (.ref a), .val (.int v1)] [])) := fun tq kq => by rw [hA0]; exact castTop (ef_rmA1 m a v1) kq
  have Ap : Arv Z h0 b kb .boolean (1024 : Int32) [(.int v0), (.int (0 : Int32))] (.int (0 : Int32)) := A.pad (pad_rep [(.int v0)] (.int (0 : Int32)) 1)
  have G43 : Go p e below A0 (s₁.setTop (mkF m 1 #[.val (.ref a), .val (.int v1)] [(.ref a)])) := fun tq kq => G0 tq (by
    refine XS.aloadN X0.here hx rfl (hb hby d5_0) rfl rfl ?_
    show Steps p.tables e below (s₁.setTop (mkF m 1 #[.val (.ref a), .val (.int v1)] [(.ref a)])) _
    exact kq)
  obtain ⟨T44, X44, e44, st44⟩ := getF X0 hx hZ hown (host := "") (Or.inl (hw _ (List.mem_of_getElem? (i := 28) rfl))) Via.refl e0 F2 (g := (mkF m 1 #[.val (.ref a), .val (.int v1)] [(.ref a)])) rfl rfl (hb hby d5_1)
  have G45 : Go p e below A0 (T44.setTop (mkF m 4 #[.val (.ref a), .val (.int v1)] [(.int (1 : Int32))])) := fun tq kq => G43 tq (st44 _ kq)
  have G46 : Go p e below A0 (T44.setTop (mkF m 5 #[.val (.ref a), .val (.int v1)] [(.ref a), (.int (1 : Int32))])) := fun tq kq => G45 tq (by
    refine XS.aloadN X44.here hx rfl (hb hby d5_4) rfl rfl ?_
    show Steps p.tables e below (T44.setTop (mkF m 5 #[.val (.ref a), .val (.int v1)] [(.ref a), (.int (1 : Int32))])) _
    exact kq)
  obtain ⟨T47, X47, e47, st47⟩ := getF X44 hx hZ hown (host := "") (Or.inl (hw _ (List.mem_of_getElem? (i := 19) rfl))) Via.refl e44 F1 (g := (mkF m 5 #[.val (.ref a), .val (.int v1)] [(.ref a), (.int (1 : Int32))])) rfl rfl (hb hby d5_5)
  have G48 : Go p e below A0 (T47.setTop (mkF m 8 #[.val (.ref a), .val (.int v1)] [(.ref b), (.int (1 : Int32))])) := fun tq kq => G46 tq (st47 _ kq)
  obtain ⟨cl49, Ar49, q49, S49, M49, H49, Gf49⟩ := id Ap
  have G50 : Go p e below A0 (T47.setTop (mkF m 30 #[.val (.ref a), .val (.int v1)] [(.ref a)])) := fun tq kq => G48 tq (by
    refine X47.arraylength hx (by rw [e47]; exact Ar49.1) (State.isArrayOf_alike hZ.alike Ar49.2.1) (g := (mkF m 8 #[.val (.ref a), .val (.int v1)] [(.ref b), (.int (1 : Int32))])) rfl rfl (hb hby d5_8) _ ?_
    rw [len_of S49 M49]
    show Steps p.tables e below (T47.setTop (mkF m 9 #[.val (.ref a), .val (.int v1)] [(.int (1024 : Int32)), (.int (1 : Int32))])) _
    refine XS.icmpYes X47.here hx rfl (pc0 := 9) (pc' := 29) rfl (hb hby d5_9) rfl (by decide) (by decide) (by decide) ?_
    show Steps p.tables e below (T47.setTop (mkF m 29 #[.val (.ref a), .val (.int v1)] [])) _
    refine XS.aloadN X47.here hx rfl (hb hby d5_29) rfl rfl ?_
    show Steps p.tables e below (T47.setTop (mkF m 30 #[.val (.ref a), .val (.int v1)] [(.ref a)])) _
    exact kq)
  obtain ⟨T51, X51, e51, st51⟩ := getF X47 hx hZ hown (host := "") (Or.inl (hw _ (List.mem_of_getElem? (i := 19) rfl))) Via.refl e47 F1 (g := (mkF m 30 #[.val (.ref a), .val (.int v1)] [(.ref a)])) rfl rfl (hb hby d5_30)
  have G52 : Go p e below A0 (T51.setTop (mkF m 33 #[.val (.ref a), .val (.int v1)] [(.ref b)])) := fun tq kq => G50 tq (st51 _ kq)
  have G53 : Go p e below A0 (T51.setTop (mkF m 35 #[.val (.ref a), .val (.int v1)] [(.ref a), (.ref a), (.ref b)])) := fun tq kq => G52 tq (by
    refine XS.aloadN X51.here hx rfl (hb hby d5_33) rfl rfl ?_
    show Steps p.tables e below (T51.setTop (mkF m 34 #[.val (.ref a), .val (.int v1)] [(.ref a), (.ref b)])) _
    refine XS.dup X51.here hx rfl (hb hby d5_34) rfl rfl ?_
    show Steps p.tables e below (T51.setTop (mkF m 35 #[.val (.ref a), .val (.int v1)] [(.ref a), (.ref a), (.ref b)])) _
    exact kq)
  obtain ⟨T54, X54, e54, st54⟩ := getF X51 hx hZ hown (host := "") (Or.inl (hw _ (List.mem_of_getElem? (i := 28) rfl))) Via.refl e51 F2 (g := (mkF m 35 #[.val (.ref a), .val (.int v1)] [(.ref a), (.ref a), (.ref b)])) rfl rfl (hb hby d5_35)
  have G55 : Go p e below A0 (T54.setTop (mkF m 38 #[.val (.ref a), .val (.int v1)] [(.int (1 : Int32)), (.ref a), (.ref b)])) := fun tq kq => G53 tq (st54 _ kq)
  have G56 : Go p e below A0 (T54.setTop (mkF m 41 #[.val (.ref a), .val (.int v1)] [(.int (2 : Int32)), (.ref a), (.int (1 : Int32)), (.ref b)])) := fun tq kq => G55 tq (by
    refine XS.dupX1 X54.here hx rfl (hb hby d5_38) rfl rfl rfl ?_
    show Steps p.tables e below (T54.setTop (mkF m 39 #[.val (.ref a), .val (.int v1)] [(.int (1 : Int32)), (.ref a), (.int (1 : Int32)), (.ref b)])) _
    refine XS.iconst X54.here hx rfl (hb hby d5_39) ?_
    show Steps p.tables e below (T54.setTop (mkF m 40 #[.val (.ref a), .val (.int v1)] [(.int (1 : Int32)), (.int (1 : Int32)), (.ref a), (.int (1 : Int32)), (.ref b)])) _
    refine XS.iadd X54.here hx rfl (hb hby d5_40) rfl ?_
    show Steps p.tables e below (T54.setTop (mkF m 41 #[.val (.ref a), .val (.int v1)] [(.int ((1 : Int32) + (1 : Int32))), (.ref a), (.int (1 : Int32)), (.ref b)])) _
    rw [show ((1 : Int32) + (1 : Int32)) = (2 : Int32) from (by decide : ((1 : Int32) + (1 : Int32)) = (2 : Int32))]
    show Steps p.tables e below (T54.setTop (mkF m 41 #[.val (.ref a), .val (.int v1)] [(.int (2 : Int32)), (.ref a), (.int (1 : Int32)), (.ref b)])) _
    exact kq)
  obtain ⟨T57, h57, X57, e57, W57, st57⟩ := putF X54 hx hZ hown (host := "") (Or.inl (hw _ (List.mem_of_getElem? (i := 28) rfl))) Via.refl e54 F2 E (Or.inl (hw _ (List.mem_of_getElem? (i := 29) rfl))) (hw _ (List.mem_of_getElem? (i := 2) rfl)) (ty := .int) (by decide) rfl rfl (g := (mkF m 41 #[.val (.ref a), .val (.int v1)] [(.int (2 : Int32)), (.ref a), (.int (1 : Int32)), (.ref b)])) rfl rfl (hb hby d5_41)
  have N57 := Fr.snoc X57 N0 ga
  have fw57 := F2.same W57
  have G58 : Go p e below A0 (T57.setTop (mkF m 44 #[.val (.ref a), .val (.int v1)] [(.int (1 : Int32)), (.ref b)])) := fun tq kq => G56 tq (st57 _ kq)
  have G59 : Go p e below A0 (T57.setTop (mkF m 45 #[.val (.ref a), .val (.int v1)] [(.int v1), (.int (1 : Int32)), (.ref b)])) := fun tq kq => G58 tq (by
    refine XS.iloadN X57.here hx rfl (hb hby d5_44) rfl ?_
    show Steps p.tables e below (T57.setTop (mkF m 45 #[.val (.ref a), .val (.int v1)] [(.int v1), (.int (1 : Int32)), (.ref b)])) _
    exact kq)
  have f60 := (Ap.other W57 (Ne.symm hab))
  obtain ⟨cl61, Ar61, q61, S61, M61, H61, Gf61⟩ := id f60
  have hi62 : ¬ ((1 : Int32) < 0 ∨ cl61.slots.size ≤ ((1 : Int32)).toNatClampNeg) := (inb_of S61 ⟨by decide, by decide⟩)
  obtain ⟨T63, h63, X63, e63, W63, st63⟩ := stZ X57 hx hZ e57 Ar61 (j := (1 : Int32)) hi62 (g := (mkF m 45 #[.val (.ref a), .val (.int v1)] [(.int v1), (.int (1 : Int32)), (.ref b)])) rfl rfl (hb hby d5_45)
  rw [show nar .boolean v1 = v1 from own_nar01 hbv] at W63
  have N63 := Fr.snoc X63 N57 gb
  have V63 := Arv.set Ar61 q61 S61 M61 H61 Gf61 (own_fit01 hbv) W63 1 rfl (Nat.le_of_ble_eq_true rfl)
  have V63' : Arv Z h63 b kb .boolean (1024 : Int32) [(.int v0), (.int v1)] (.int (0 : Int32)) := by exact V63
  have G64 : Go p e below A0 (T63.setTop (mkF m 46 #[.val (.ref a), .val (.int v1)] [])) := fun tq kq => G59 tq (st63 _ kq)
  have f65 := ((F1.other W57 (Or.inr (slot_ne (Or.inl (hw _ (List.mem_of_getElem? (i := 20) rfl))) (Or.inl (hw _ (List.mem_of_getElem? (i := 29) rfl))) (by decide) (t := (.array .boolean)) (t' := .int) (by decide) (by decide)))).other W63 (Or.inl hab))
  have f66 := (fw57.other W63 (Or.inl hab))
  obtain ⟨fs, hr, hrun, hended, hW, hsame⟩ := X63.leave (v := none) (fun _ => rfl)
  refine ⟨_, _, (by rw [← hA0]; exact G64 _ (X63.returnOut hx Bd.returns (hb hby d5_46) hr)), hrun, hended, _, _, rfl, ?_, ⟨_, rfl⟩, hW, hsame.mono (by decide) (by decide)⟩
  show Qa1 Z a b kb v0 v1 h0 n0 _ T63.heap _
  rw [e63]
  exact ⟨rfl, N63, (((Keep.refl h0 [a, b]).wr W57 (Or.inl (List.mem_of_getElem? (i := 0) rfl))).wr W63 (Or.inl (List.mem_of_getElem? (i := 1) rfl))), f65, f66, V63'⟩
def Qa2 (Z : State) (a b : Addr) (kb : ClassId) (v0 v1 v2 : Int32) (h0 : Heap) (n0 : Nat) (v : Option Value) (h : Heap) (L : List Loc) : Prop := v = none ∧ Fr n0 L ∧ Keep h0 h [a, b] ∧ Fld Z h a "com/example/tube2/tube2/trace/BooleanSignal" "values" "[Z" (.ref b) ∧ Fld Z h a "com/example/tube2/tube2/trace/BooleanSignal" "size" "I" (.int (3 : Int32)) ∧ Arv Z h b kb .boolean (1024 : Int32) [(.int v0), (.int v1), (.int v2)] (.int (0 : Int32))
set_option maxRecDepth 65536 in
set_option maxHeartbeats 40000000 in
theorem rmA2 (l : Launch) (Z : State) (a0 : Array Value) (hw : ∀ d ∈ tables_1, d.before a0 Z = true) (ws : List Jvm.Cond) (a b : Addr) (kb : ClassId) (v0 v1 v2 : Int32) (h0 : Heap) (n0 : Nat) (Z0 : n0 ≤ h0.size) (E : Exa Z h0 a "com/example/tube2/tube2/trace/BooleanSignal") (F1 : Fld Z h0 a "com/example/tube2/tube2/trace/BooleanSignal" "values" "[Z" (.ref b)) (F2 : Fld Z h0 a "com/example/tube2/tube2/trace/BooleanSignal" "size" "I" (.int (2 : Int32))) (A : Arv Z h0 b kb .boolean (1024 : Int32) [(.int v0), (.int v1)] (.int (0 : Int32))) (ga : n0 ≤ a) (gb : n0 ≤ b) (hab : a ≠ b) (hbv : v2 = (0 : Int32) ∨ v2 = (1 : Int32)) :
    MetFree l (⟨"com/example/tube2/tube2/trace/BooleanSignal", "add", "(Z)V"⟩ : MethodName) (head1 (Jvm.Cond.code (⟨"com/example/tube2/tube2/trace/BooleanSignal", "add", "(Z)V"⟩ : MethodName) prog_91_method_2_code 2 none :: ws) ({ frames := 0, cells := 0, slots := 0, locals := 0 } : Room)) (fun aa UU => aa = #[(.ref a), (.int v2)] ∧ Z.Warmed39 UU.vm ∧ UU.heap = h0) (fun _ _ _ _ _ => True) (fun _ UU oo U' => ∃ v L, oo = .returned v ∧ Qa2 Z a b kb v0 v1 v2 h0 n0 v U'.heap L ∧ FrameEnd UU oo U' L ({ frames := 0, cells := 0, slots := 0, locals := 0 } : Room).cells ({ frames := 0, cells := 0, slots := 0, locals := 0 } : Room).slots) := by
  refine MetFree.of_bodySF (plainFor_of_name pn_0) hisR ?_
  intro p e s m args below meth c s₁ Bd hml0 hP hK
  obtain ⟨rfl, hZ, hh⟩ := hP
  have hx := Bd.exec
  have hby := Bd.bytes
  have hml : c.maxLocals = 2 := hml0
  have hown : s.vm.findClass "com/example/tube2/tube2/trace/BooleanSignal" = some m.cls := findClass_of_methodNamed Bd.named
  have hnm := (name_of_methodNamed Bd.named Bd.method).1
  have X0 : Stand p l e ({ frames := 0, cells := 0, slots := 0, locals := 0 } : Room) s m #[(.ref a), (.int v2)] below meth c s₁ [] 0 0 := Stand.of_body Bd
  have e0 : s₁.heap = h0 := by rw [← hh, Bd.state]; rfl
  have N0 := Fr.nil n0
  obtain ⟨A0, hA0⟩ : ∃ A, A = s₁.setTop (entryFrame m #[(.ref a), (.int v2)] 2) := ⟨_, rfl⟩
  have G0 : Go p e below A0 (s₁.setTop (mkF m 0 #[.val (.ref a), .val (.int v2)] [])) := fun tq kq => by rw [hA0]; exact castTop (ef_rmA2 m a v2) kq
  have Ap : Arv Z h0 b kb .boolean (1024 : Int32) [(.int v0), (.int v1), (.int (0 : Int32))] (.int (0 : Int32)) := A.pad (pad_rep [(.int v0), (.int v1)] (.int (0 : Int32)) 1)
  have G67 : Go p e below A0 (s₁.setTop (mkF m 1 #[.val (.ref a), .val (.int v2)] [(.ref a)])) := fun tq kq => G0 tq (by
    refine XS.aloadN X0.here hx rfl (hb hby d5_0) rfl rfl ?_
    show Steps p.tables e below (s₁.setTop (mkF m 1 #[.val (.ref a), .val (.int v2)] [(.ref a)])) _
    exact kq)
  obtain ⟨T68, X68, e68, st68⟩ := getF X0 hx hZ hown (host := "") (Or.inl (hw _ (List.mem_of_getElem? (i := 28) rfl))) Via.refl e0 F2 (g := (mkF m 1 #[.val (.ref a), .val (.int v2)] [(.ref a)])) rfl rfl (hb hby d5_1)
  have G69 : Go p e below A0 (T68.setTop (mkF m 4 #[.val (.ref a), .val (.int v2)] [(.int (2 : Int32))])) := fun tq kq => G67 tq (st68 _ kq)
  have G70 : Go p e below A0 (T68.setTop (mkF m 5 #[.val (.ref a), .val (.int v2)] [(.ref a), (.int (2 : Int32))])) := fun tq kq => G69 tq (by
    refine XS.aloadN X68.here hx rfl (hb hby d5_4) rfl rfl ?_
    show Steps p.tables e below (T68.setTop (mkF m 5 #[.val (.ref a), .val (.int v2)] [(.ref a), (.int (2 : Int32))])) _
    exact kq)
  obtain ⟨T71, X71, e71, st71⟩ := getF X68 hx hZ hown (host := "") (Or.inl (hw _ (List.mem_of_getElem? (i := 19) rfl))) Via.refl e68 F1 (g := (mkF m 5 #[.val (.ref a), .val (.int v2)] [(.ref a), (.int (2 : Int32))])) rfl rfl (hb hby d5_5)
  have G72 : Go p e below A0 (T71.setTop (mkF m 8 #[.val (.ref a), .val (.int v2)] [(.ref b), (.int (2 : Int32))])) := fun tq kq => G70 tq (st71 _ kq)
  obtain ⟨cl73, Ar73, q73, S73, M73, H73, Gf73⟩ := id Ap
  have G74 : Go p e below A0 (T71.setTop (mkF m 30 #[.val (.ref a), .val (.int v2)] [(.ref a)])) := fun tq kq => G72 tq (by
    refine X71.arraylength hx (by rw [e71]; exact Ar73.1) (State.isArrayOf_alike hZ.alike Ar73.2.1) (g := (mkF m 8 #[.val (.ref a), .val (.int v2)] [(.ref b), (.int (2 : Int32))])) rfl rfl (hb hby d5_8) _ ?_
    rw [len_of S73 M73]
    show Steps p.tables e below (T71.setTop (mkF m 9 #[.val (.ref a), .val (.int v2)] [(.int (1024 : Int32)), (.int (2 : Int32))])) _
    refine XS.icmpYes X71.here hx rfl (pc0 := 9) (pc' := 29) rfl (hb hby d5_9) rfl (by decide) (by decide) (by decide) ?_
    show Steps p.tables e below (T71.setTop (mkF m 29 #[.val (.ref a), .val (.int v2)] [])) _
    refine XS.aloadN X71.here hx rfl (hb hby d5_29) rfl rfl ?_
    show Steps p.tables e below (T71.setTop (mkF m 30 #[.val (.ref a), .val (.int v2)] [(.ref a)])) _
    exact kq)
  obtain ⟨T75, X75, e75, st75⟩ := getF X71 hx hZ hown (host := "") (Or.inl (hw _ (List.mem_of_getElem? (i := 19) rfl))) Via.refl e71 F1 (g := (mkF m 30 #[.val (.ref a), .val (.int v2)] [(.ref a)])) rfl rfl (hb hby d5_30)
  have G76 : Go p e below A0 (T75.setTop (mkF m 33 #[.val (.ref a), .val (.int v2)] [(.ref b)])) := fun tq kq => G74 tq (st75 _ kq)
  have G77 : Go p e below A0 (T75.setTop (mkF m 35 #[.val (.ref a), .val (.int v2)] [(.ref a), (.ref a), (.ref b)])) := fun tq kq => G76 tq (by
    refine XS.aloadN X75.here hx rfl (hb hby d5_33) rfl rfl ?_
    show Steps p.tables e below (T75.setTop (mkF m 34 #[.val (.ref a), .val (.int v2)] [(.ref a), (.ref b)])) _
    refine XS.dup X75.here hx rfl (hb hby d5_34) rfl rfl ?_
    show Steps p.tables e below (T75.setTop (mkF m 35 #[.val (.ref a), .val (.int v2)] [(.ref a), (.ref a), (.ref b)])) _
    exact kq)
  obtain ⟨T78, X78, e78, st78⟩ := getF X75 hx hZ hown (host := "") (Or.inl (hw _ (List.mem_of_getElem? (i := 28) rfl))) Via.refl e75 F2 (g := (mkF m 35 #[.val (.ref a), .val (.int v2)] [(.ref a), (.ref a), (.ref b)])) rfl rfl (hb hby d5_35)
  have G79 : Go p e below A0 (T78.setTop (mkF m 38 #[.val (.ref a), .val (.int v2)] [(.int (2 : Int32)), (.ref a), (.ref b)])) := fun tq kq => G77 tq (st78 _ kq)
  have G80 : Go p e below A0 (T78.setTop (mkF m 41 #[.val (.ref a), .val (.int v2)] [(.int (3 : Int32)), (.ref a), (.int (2 : Int32)), (.ref b)])) := fun tq kq => G79 tq (by
    refine XS.dupX1 X78.here hx rfl (hb hby d5_38) rfl rfl rfl ?_
    show Steps p.tables e below (T78.setTop (mkF m 39 #[.val (.ref a), .val (.int v2)] [(.int (2 : Int32)), (.ref a), (.int (2 : Int32)), (.ref b)])) _
    refine XS.iconst X78.here hx rfl (hb hby d5_39) ?_
    show Steps p.tables e below (T78.setTop (mkF m 40 #[.val (.ref a), .val (.int v2)] [(.int (1 : Int32)), (.int (2 : Int32)), (.ref a), (.int (2 : Int32)), (.ref b)])) _
    refine XS.iadd X78.here hx rfl (hb hby d5_40) rfl ?_
    show Steps p.tables e below (T78.setTop (mkF m 41 #[.val (.ref a), .val (.int v2)] [(.int ((2 : Int32) + (1 : Int32))), (.ref a), (.int (2 : Int32)), (.ref b)])) _
    rw [show ((2 : Int32) + (1 : Int32)) = (3 : Int32) from (by decide : ((2 : Int32) + (1 : Int32)) = (3 : Int32))]
    show Steps p.tables e below (T78.setTop (mkF m 41 #[.val (.ref a), .val (.int v2)] [(.int (3 : Int32)), (.ref a), (.int (2 : Int32)), (.ref b)])) _
    exact kq)
  obtain ⟨T81, h81, X81, e81, W81, st81⟩ := putF X78 hx hZ hown (host := "") (Or.inl (hw _ (List.mem_of_getElem? (i := 28) rfl))) Via.refl e78 F2 E (Or.inl (hw _ (List.mem_of_getElem? (i := 29) rfl))) (hw _ (List.mem_of_getElem? (i := 2) rfl)) (ty := .int) (by decide) rfl rfl (g := (mkF m 41 #[.val (.ref a), .val (.int v2)] [(.int (3 : Int32)), (.ref a), (.int (2 : Int32)), (.ref b)])) rfl rfl (hb hby d5_41)
  have N81 := Fr.snoc X81 N0 ga
  have fw81 := F2.same W81
  have G82 : Go p e below A0 (T81.setTop (mkF m 44 #[.val (.ref a), .val (.int v2)] [(.int (2 : Int32)), (.ref b)])) := fun tq kq => G80 tq (st81 _ kq)
  have G83 : Go p e below A0 (T81.setTop (mkF m 45 #[.val (.ref a), .val (.int v2)] [(.int v2), (.int (2 : Int32)), (.ref b)])) := fun tq kq => G82 tq (by
    refine XS.iloadN X81.here hx rfl (hb hby d5_44) rfl ?_
    show Steps p.tables e below (T81.setTop (mkF m 45 #[.val (.ref a), .val (.int v2)] [(.int v2), (.int (2 : Int32)), (.ref b)])) _
    exact kq)
  have f84 := (Ap.other W81 (Ne.symm hab))
  obtain ⟨cl85, Ar85, q85, S85, M85, H85, Gf85⟩ := id f84
  have hi86 : ¬ ((2 : Int32) < 0 ∨ cl85.slots.size ≤ ((2 : Int32)).toNatClampNeg) := (inb_of S85 ⟨by decide, by decide⟩)
  obtain ⟨T87, h87, X87, e87, W87, st87⟩ := stZ X81 hx hZ e81 Ar85 (j := (2 : Int32)) hi86 (g := (mkF m 45 #[.val (.ref a), .val (.int v2)] [(.int v2), (.int (2 : Int32)), (.ref b)])) rfl rfl (hb hby d5_45)
  rw [show nar .boolean v2 = v2 from own_nar01 hbv] at W87
  have N87 := Fr.snoc X87 N81 gb
  have V87 := Arv.set Ar85 q85 S85 M85 H85 Gf85 (own_fit01 hbv) W87 2 rfl (Nat.le_of_ble_eq_true rfl)
  have V87' : Arv Z h87 b kb .boolean (1024 : Int32) [(.int v0), (.int v1), (.int v2)] (.int (0 : Int32)) := by exact V87
  have G88 : Go p e below A0 (T87.setTop (mkF m 46 #[.val (.ref a), .val (.int v2)] [])) := fun tq kq => G83 tq (st87 _ kq)
  have f89 := ((F1.other W81 (Or.inr (slot_ne (Or.inl (hw _ (List.mem_of_getElem? (i := 20) rfl))) (Or.inl (hw _ (List.mem_of_getElem? (i := 29) rfl))) (by decide) (t := (.array .boolean)) (t' := .int) (by decide) (by decide)))).other W87 (Or.inl hab))
  have f90 := (fw81.other W87 (Or.inl hab))
  obtain ⟨fs, hr, hrun, hended, hW, hsame⟩ := X87.leave (v := none) (fun _ => rfl)
  refine ⟨_, _, (by rw [← hA0]; exact G88 _ (X87.returnOut hx Bd.returns (hb hby d5_46) hr)), hrun, hended, _, _, rfl, ?_, ⟨_, rfl⟩, hW, hsame.mono (by decide) (by decide)⟩
  show Qa2 Z a b kb v0 v1 v2 h0 n0 _ T87.heap _
  rw [e87]
  exact ⟨rfl, N87, (((Keep.refl h0 [a, b]).wr W81 (Or.inl (List.mem_of_getElem? (i := 0) rfl))).wr W87 (Or.inl (List.mem_of_getElem? (i := 1) rfl))), f89, f90, V87'⟩
def Qa3 (Z : State) (a b : Addr) (kb : ClassId) (v0 v1 v2 v3 : Int32) (h0 : Heap) (n0 : Nat) (v : Option Value) (h : Heap) (L : List Loc) : Prop := v = none ∧ Fr n0 L ∧ Keep h0 h [a, b] ∧ Fld Z h a "com/example/tube2/tube2/trace/BooleanSignal" "values" "[Z" (.ref b) ∧ Fld Z h a "com/example/tube2/tube2/trace/BooleanSignal" "size" "I" (.int (4 : Int32)) ∧ Arv Z h b kb .boolean (1024 : Int32) [(.int v0), (.int v1), (.int v2), (.int v3)] (.int (0 : Int32))
set_option maxRecDepth 65536 in
set_option maxHeartbeats 40000000 in
theorem rmA3 (l : Launch) (Z : State) (a0 : Array Value) (hw : ∀ d ∈ tables_1, d.before a0 Z = true) (ws : List Jvm.Cond) (a b : Addr) (kb : ClassId) (v0 v1 v2 v3 : Int32) (h0 : Heap) (n0 : Nat) (Z0 : n0 ≤ h0.size) (E : Exa Z h0 a "com/example/tube2/tube2/trace/BooleanSignal") (F1 : Fld Z h0 a "com/example/tube2/tube2/trace/BooleanSignal" "values" "[Z" (.ref b)) (F2 : Fld Z h0 a "com/example/tube2/tube2/trace/BooleanSignal" "size" "I" (.int (3 : Int32))) (A : Arv Z h0 b kb .boolean (1024 : Int32) [(.int v0), (.int v1), (.int v2)] (.int (0 : Int32))) (ga : n0 ≤ a) (gb : n0 ≤ b) (hab : a ≠ b) (hbv : v3 = (0 : Int32) ∨ v3 = (1 : Int32)) :
    MetFree l (⟨"com/example/tube2/tube2/trace/BooleanSignal", "add", "(Z)V"⟩ : MethodName) (head1 (Jvm.Cond.code (⟨"com/example/tube2/tube2/trace/BooleanSignal", "add", "(Z)V"⟩ : MethodName) prog_91_method_2_code 2 none :: ws) ({ frames := 0, cells := 0, slots := 0, locals := 0 } : Room)) (fun aa UU => aa = #[(.ref a), (.int v3)] ∧ Z.Warmed39 UU.vm ∧ UU.heap = h0) (fun _ _ _ _ _ => True) (fun _ UU oo U' => ∃ v L, oo = .returned v ∧ Qa3 Z a b kb v0 v1 v2 v3 h0 n0 v U'.heap L ∧ FrameEnd UU oo U' L ({ frames := 0, cells := 0, slots := 0, locals := 0 } : Room).cells ({ frames := 0, cells := 0, slots := 0, locals := 0 } : Room).slots) := by
  refine MetFree.of_bodySF (plainFor_of_name pn_0) hisR ?_
  intro p e s m args below meth c s₁ Bd hml0 hP hK
  obtain ⟨rfl, hZ, hh⟩ := hP
  have hx := Bd.exec
  have hby := Bd.bytes
  have hml : c.maxLocals = 2 := hml0
  have hown : s.vm.findClass "com/example/tube2/tube2/trace/BooleanSignal" = some m.cls := findClass_of_methodNamed Bd.named
  have hnm := (name_of_methodNamed Bd.named Bd.method).1
  have X0 : Stand p l e ({ frames := 0, cells := 0, slots := 0, locals := 0 } : Room) s m #[(.ref a), (.int v3)] below meth c s₁ [] 0 0 := Stand.of_body Bd
  have e0 : s₁.heap = h0 := by rw [← hh, Bd.state]; rfl
  have N0 := Fr.nil n0
  obtain ⟨A0, hA0⟩ : ∃ A, A = s₁.setTop (entryFrame m #[(.ref a), (.int v3)] 2) := ⟨_, rfl⟩
  have G0 : Go p e below A0 (s₁.setTop (mkF m 0 #[.val (.ref a), .val (.int v3)] [])) := fun tq kq => by rw [hA0]; exact castTop (ef_rmA3 m a v3) kq
  have Ap : Arv Z h0 b kb .boolean (1024 : Int32) [(.int v0), (.int v1), (.int v2), (.int (0 : Int32))] (.int (0 : Int32)) := A.pad (pad_rep [(.int v0), (.int v1), (.int v2)] (.int (0 : Int32)) 1)
  have G91 : Go p e below A0 (s₁.setTop (mkF m 1 #[.val (.ref a), .val (.int v3)] [(.ref a)])) := fun tq kq => G0 tq (by
    refine XS.aloadN X0.here hx rfl (hb hby d5_0) rfl rfl ?_
    show Steps p.tables e below (s₁.setTop (mkF m 1 #[.val (.ref a), .val (.int v3)] [(.ref a)])) _
    exact kq)
  obtain ⟨T92, X92, e92, st92⟩ := getF X0 hx hZ hown (host := "") (Or.inl (hw _ (List.mem_of_getElem? (i := 28) rfl))) Via.refl e0 F2 (g := (mkF m 1 #[.val (.ref a), .val (.int v3)] [(.ref a)])) rfl rfl (hb hby d5_1)
  have G93 : Go p e below A0 (T92.setTop (mkF m 4 #[.val (.ref a), .val (.int v3)] [(.int (3 : Int32))])) := fun tq kq => G91 tq (st92 _ kq)
  have G94 : Go p e below A0 (T92.setTop (mkF m 5 #[.val (.ref a), .val (.int v3)] [(.ref a), (.int (3 : Int32))])) := fun tq kq => G93 tq (by
    refine XS.aloadN X92.here hx rfl (hb hby d5_4) rfl rfl ?_
    show Steps p.tables e below (T92.setTop (mkF m 5 #[.val (.ref a), .val (.int v3)] [(.ref a), (.int (3 : Int32))])) _
    exact kq)
  obtain ⟨T95, X95, e95, st95⟩ := getF X92 hx hZ hown (host := "") (Or.inl (hw _ (List.mem_of_getElem? (i := 19) rfl))) Via.refl e92 F1 (g := (mkF m 5 #[.val (.ref a), .val (.int v3)] [(.ref a), (.int (3 : Int32))])) rfl rfl (hb hby d5_5)
  have G96 : Go p e below A0 (T95.setTop (mkF m 8 #[.val (.ref a), .val (.int v3)] [(.ref b), (.int (3 : Int32))])) := fun tq kq => G94 tq (st95 _ kq)
  obtain ⟨cl97, Ar97, q97, S97, M97, H97, Gf97⟩ := id Ap
  have G98 : Go p e below A0 (T95.setTop (mkF m 30 #[.val (.ref a), .val (.int v3)] [(.ref a)])) := fun tq kq => G96 tq (by
    refine X95.arraylength hx (by rw [e95]; exact Ar97.1) (State.isArrayOf_alike hZ.alike Ar97.2.1) (g := (mkF m 8 #[.val (.ref a), .val (.int v3)] [(.ref b), (.int (3 : Int32))])) rfl rfl (hb hby d5_8) _ ?_
    rw [len_of S97 M97]
    show Steps p.tables e below (T95.setTop (mkF m 9 #[.val (.ref a), .val (.int v3)] [(.int (1024 : Int32)), (.int (3 : Int32))])) _
    refine XS.icmpYes X95.here hx rfl (pc0 := 9) (pc' := 29) rfl (hb hby d5_9) rfl (by decide) (by decide) (by decide) ?_
    show Steps p.tables e below (T95.setTop (mkF m 29 #[.val (.ref a), .val (.int v3)] [])) _
    refine XS.aloadN X95.here hx rfl (hb hby d5_29) rfl rfl ?_
    show Steps p.tables e below (T95.setTop (mkF m 30 #[.val (.ref a), .val (.int v3)] [(.ref a)])) _
    exact kq)
  obtain ⟨T99, X99, e99, st99⟩ := getF X95 hx hZ hown (host := "") (Or.inl (hw _ (List.mem_of_getElem? (i := 19) rfl))) Via.refl e95 F1 (g := (mkF m 30 #[.val (.ref a), .val (.int v3)] [(.ref a)])) rfl rfl (hb hby d5_30)
  have G100 : Go p e below A0 (T99.setTop (mkF m 33 #[.val (.ref a), .val (.int v3)] [(.ref b)])) := fun tq kq => G98 tq (st99 _ kq)
  have G101 : Go p e below A0 (T99.setTop (mkF m 35 #[.val (.ref a), .val (.int v3)] [(.ref a), (.ref a), (.ref b)])) := fun tq kq => G100 tq (by
    refine XS.aloadN X99.here hx rfl (hb hby d5_33) rfl rfl ?_
    show Steps p.tables e below (T99.setTop (mkF m 34 #[.val (.ref a), .val (.int v3)] [(.ref a), (.ref b)])) _
    refine XS.dup X99.here hx rfl (hb hby d5_34) rfl rfl ?_
    show Steps p.tables e below (T99.setTop (mkF m 35 #[.val (.ref a), .val (.int v3)] [(.ref a), (.ref a), (.ref b)])) _
    exact kq)
  obtain ⟨T102, X102, e102, st102⟩ := getF X99 hx hZ hown (host := "") (Or.inl (hw _ (List.mem_of_getElem? (i := 28) rfl))) Via.refl e99 F2 (g := (mkF m 35 #[.val (.ref a), .val (.int v3)] [(.ref a), (.ref a), (.ref b)])) rfl rfl (hb hby d5_35)
  have G103 : Go p e below A0 (T102.setTop (mkF m 38 #[.val (.ref a), .val (.int v3)] [(.int (3 : Int32)), (.ref a), (.ref b)])) := fun tq kq => G101 tq (st102 _ kq)
  have G104 : Go p e below A0 (T102.setTop (mkF m 41 #[.val (.ref a), .val (.int v3)] [(.int (4 : Int32)), (.ref a), (.int (3 : Int32)), (.ref b)])) := fun tq kq => G103 tq (by
    refine XS.dupX1 X102.here hx rfl (hb hby d5_38) rfl rfl rfl ?_
    show Steps p.tables e below (T102.setTop (mkF m 39 #[.val (.ref a), .val (.int v3)] [(.int (3 : Int32)), (.ref a), (.int (3 : Int32)), (.ref b)])) _
    refine XS.iconst X102.here hx rfl (hb hby d5_39) ?_
    show Steps p.tables e below (T102.setTop (mkF m 40 #[.val (.ref a), .val (.int v3)] [(.int (1 : Int32)), (.int (3 : Int32)), (.ref a), (.int (3 : Int32)), (.ref b)])) _
    refine XS.iadd X102.here hx rfl (hb hby d5_40) rfl ?_
    show Steps p.tables e below (T102.setTop (mkF m 41 #[.val (.ref a), .val (.int v3)] [(.int ((3 : Int32) + (1 : Int32))), (.ref a), (.int (3 : Int32)), (.ref b)])) _
    rw [show ((3 : Int32) + (1 : Int32)) = (4 : Int32) from (by decide : ((3 : Int32) + (1 : Int32)) = (4 : Int32))]
    show Steps p.tables e below (T102.setTop (mkF m 41 #[.val (.ref a), .val (.int v3)] [(.int (4 : Int32)), (.ref a), (.int (3 : Int32)), (.ref b)])) _
    exact kq)
  obtain ⟨T105, h105, X105, e105, W105, st105⟩ := putF X102 hx hZ hown (host := "") (Or.inl (hw _ (List.mem_of_getElem? (i := 28) rfl))) Via.refl e102 F2 E (Or.inl (hw _ (List.mem_of_getElem? (i := 29) rfl))) (hw _ (List.mem_of_getElem? (i := 2) rfl)) (ty := .int) (by decide) rfl rfl (g := (mkF m 41 #[.val (.ref a), .val (.int v3)] [(.int (4 : Int32)), (.ref a), (.int (3 : Int32)), (.ref b)])) rfl rfl (hb hby d5_41)
  have N105 := Fr.snoc X105 N0 ga
  have fw105 := F2.same W105
  have G106 : Go p e below A0 (T105.setTop (mkF m 44 #[.val (.ref a), .val (.int v3)] [(.int (3 : Int32)), (.ref b)])) := fun tq kq => G104 tq (st105 _ kq)
  have G107 : Go p e below A0 (T105.setTop (mkF m 45 #[.val (.ref a), .val (.int v3)] [(.int v3), (.int (3 : Int32)), (.ref b)])) := fun tq kq => G106 tq (by
    refine XS.iloadN X105.here hx rfl (hb hby d5_44) rfl ?_
    show Steps p.tables e below (T105.setTop (mkF m 45 #[.val (.ref a), .val (.int v3)] [(.int v3), (.int (3 : Int32)), (.ref b)])) _
    exact kq)
  have f108 := (Ap.other W105 (Ne.symm hab))
  obtain ⟨cl109, Ar109, q109, S109, M109, H109, Gf109⟩ := id f108
  have hi110 : ¬ ((3 : Int32) < 0 ∨ cl109.slots.size ≤ ((3 : Int32)).toNatClampNeg) := (inb_of S109 ⟨by decide, by decide⟩)
  obtain ⟨T111, h111, X111, e111, W111, st111⟩ := stZ X105 hx hZ e105 Ar109 (j := (3 : Int32)) hi110 (g := (mkF m 45 #[.val (.ref a), .val (.int v3)] [(.int v3), (.int (3 : Int32)), (.ref b)])) rfl rfl (hb hby d5_45)
  rw [show nar .boolean v3 = v3 from own_nar01 hbv] at W111
  have N111 := Fr.snoc X111 N105 gb
  have V111 := Arv.set Ar109 q109 S109 M109 H109 Gf109 (own_fit01 hbv) W111 3 rfl (Nat.le_of_ble_eq_true rfl)
  have V111' : Arv Z h111 b kb .boolean (1024 : Int32) [(.int v0), (.int v1), (.int v2), (.int v3)] (.int (0 : Int32)) := by exact V111
  have G112 : Go p e below A0 (T111.setTop (mkF m 46 #[.val (.ref a), .val (.int v3)] [])) := fun tq kq => G107 tq (st111 _ kq)
  have f113 := ((F1.other W105 (Or.inr (slot_ne (Or.inl (hw _ (List.mem_of_getElem? (i := 20) rfl))) (Or.inl (hw _ (List.mem_of_getElem? (i := 29) rfl))) (by decide) (t := (.array .boolean)) (t' := .int) (by decide) (by decide)))).other W111 (Or.inl hab))
  have f114 := (fw105.other W111 (Or.inl hab))
  obtain ⟨fs, hr, hrun, hended, hW, hsame⟩ := X111.leave (v := none) (fun _ => rfl)
  refine ⟨_, _, (by rw [← hA0]; exact G112 _ (X111.returnOut hx Bd.returns (hb hby d5_46) hr)), hrun, hended, _, _, rfl, ?_, ⟨_, rfl⟩, hW, hsame.mono (by decide) (by decide)⟩
  show Qa3 Z a b kb v0 v1 v2 v3 h0 n0 _ T111.heap _
  rw [e111]
  exact ⟨rfl, N111, (((Keep.refl h0 [a, b]).wr W105 (Or.inl (List.mem_of_getElem? (i := 0) rfl))).wr W111 (Or.inl (List.mem_of_getElem? (i := 1) rfl))), f113, f114, V111'⟩
def Qa4 (Z : State) (a b : Addr) (kb : ClassId) (v0 v1 v2 v3 v4 : Int32) (h0 : Heap) (n0 : Nat) (v : Option Value) (h : Heap) (L : List Loc) : Prop := v = none ∧ Fr n0 L ∧ Keep h0 h [a, b] ∧ Fld Z h a "com/example/tube2/tube2/trace/BooleanSignal" "values" "[Z" (.ref b) ∧ Fld Z h a "com/example/tube2/tube2/trace/BooleanSignal" "size" "I" (.int (5 : Int32)) ∧ Arv Z h b kb .boolean (1024 : Int32) [(.int v0), (.int v1), (.int v2), (.int v3), (.int v4)] (.int (0 : Int32))
set_option maxRecDepth 65536 in
set_option maxHeartbeats 40000000 in
theorem rmA4 (l : Launch) (Z : State) (a0 : Array Value) (hw : ∀ d ∈ tables_1, d.before a0 Z = true) (ws : List Jvm.Cond) (a b : Addr) (kb : ClassId) (v0 v1 v2 v3 v4 : Int32) (h0 : Heap) (n0 : Nat) (Z0 : n0 ≤ h0.size) (E : Exa Z h0 a "com/example/tube2/tube2/trace/BooleanSignal") (F1 : Fld Z h0 a "com/example/tube2/tube2/trace/BooleanSignal" "values" "[Z" (.ref b)) (F2 : Fld Z h0 a "com/example/tube2/tube2/trace/BooleanSignal" "size" "I" (.int (4 : Int32))) (A : Arv Z h0 b kb .boolean (1024 : Int32) [(.int v0), (.int v1), (.int v2), (.int v3)] (.int (0 : Int32))) (ga : n0 ≤ a) (gb : n0 ≤ b) (hab : a ≠ b) (hbv : v4 = (0 : Int32) ∨ v4 = (1 : Int32)) :
    MetFree l (⟨"com/example/tube2/tube2/trace/BooleanSignal", "add", "(Z)V"⟩ : MethodName) (head1 (Jvm.Cond.code (⟨"com/example/tube2/tube2/trace/BooleanSignal", "add", "(Z)V"⟩ : MethodName) prog_91_method_2_code 2 none :: ws) ({ frames := 0, cells := 0, slots := 0, locals := 0 } : Room)) (fun aa UU => aa = #[(.ref a), (.int v4)] ∧ Z.Warmed39 UU.vm ∧ UU.heap = h0) (fun _ _ _ _ _ => True) (fun _ UU oo U' => ∃ v L, oo = .returned v ∧ Qa4 Z a b kb v0 v1 v2 v3 v4 h0 n0 v U'.heap L ∧ FrameEnd UU oo U' L ({ frames := 0, cells := 0, slots := 0, locals := 0 } : Room).cells ({ frames := 0, cells := 0, slots := 0, locals := 0 } : Room).slots) := by
  refine MetFree.of_bodySF (plainFor_of_name pn_0) hisR ?_
  intro p e s m args below meth c s₁ Bd hml0 hP hK
  obtain ⟨rfl, hZ, hh⟩ := hP
  have hx := Bd.exec
  have hby := Bd.bytes
  have hml : c.maxLocals = 2 := hml0
  have hown : s.vm.findClass "com/example/tube2/tube2/trace/BooleanSignal" = some m.cls := findClass_of_methodNamed Bd.named
  have hnm := (name_of_methodNamed Bd.named Bd.method).1
  have X0 : Stand p l e ({ frames := 0, cells := 0, slots := 0, locals := 0 } : Room) s m #[(.ref a), (.int v4)] below meth c s₁ [] 0 0 := Stand.of_body Bd
  have e0 : s₁.heap = h0 := by rw [← hh, Bd.state]; rfl
  have N0 := Fr.nil n0
  obtain ⟨A0, hA0⟩ : ∃ A, A = s₁.setTop (entryFrame m #[(.ref a), (.int v4)] 2) := ⟨_, rfl⟩
  have G0 : Go p e below A0 (s₁.setTop (mkF m 0 #[.val (.ref a), .val (.int v4)] [])) := fun tq kq => by rw [hA0]; exact castTop (ef_rmA4 m a v4) kq
  have Ap : Arv Z h0 b kb .boolean (1024 : Int32) [(.int v0), (.int v1), (.int v2), (.int v3), (.int (0 : Int32))] (.int (0 : Int32)) := A.pad (pad_rep [(.int v0), (.int v1), (.int v2), (.int v3)] (.int (0 : Int32)) 1)
  have G115 : Go p e below A0 (s₁.setTop (mkF m 1 #[.val (.ref a), .val (.int v4)] [(.ref a)])) := fun tq kq => G0 tq (by
    refine XS.aloadN X0.here hx rfl (hb hby d5_0) rfl rfl ?_
    show Steps p.tables e below (s₁.setTop (mkF m 1 #[.val (.ref a), .val (.int v4)] [(.ref a)])) _
    exact kq)
  obtain ⟨T116, X116, e116, st116⟩ := getF X0 hx hZ hown (host := "") (Or.inl (hw _ (List.mem_of_getElem? (i := 28) rfl))) Via.refl e0 F2 (g := (mkF m 1 #[.val (.ref a), .val (.int v4)] [(.ref a)])) rfl rfl (hb hby d5_1)
  have G117 : Go p e below A0 (T116.setTop (mkF m 4 #[.val (.ref a), .val (.int v4)] [(.int (4 : Int32))])) := fun tq kq => G115 tq (st116 _ kq)
  have G118 : Go p e below A0 (T116.setTop (mkF m 5 #[.val (.ref a), .val (.int v4)] [(.ref a), (.int (4 : Int32))])) := fun tq kq => G117 tq (by
    refine XS.aloadN X116.here hx rfl (hb hby d5_4) rfl rfl ?_
    show Steps p.tables e below (T116.setTop (mkF m 5 #[.val (.ref a), .val (.int v4)] [(.ref a), (.int (4 : Int32))])) _
    exact kq)
  obtain ⟨T119, X119, e119, st119⟩ := getF X116 hx hZ hown (host := "") (Or.inl (hw _ (List.mem_of_getElem? (i := 19) rfl))) Via.refl e116 F1 (g := (mkF m 5 #[.val (.ref a), .val (.int v4)] [(.ref a), (.int (4 : Int32))])) rfl rfl (hb hby d5_5)
  have G120 : Go p e below A0 (T119.setTop (mkF m 8 #[.val (.ref a), .val (.int v4)] [(.ref b), (.int (4 : Int32))])) := fun tq kq => G118 tq (st119 _ kq)
  obtain ⟨cl121, Ar121, q121, S121, M121, H121, Gf121⟩ := id Ap
  have G122 : Go p e below A0 (T119.setTop (mkF m 30 #[.val (.ref a), .val (.int v4)] [(.ref a)])) := fun tq kq => G120 tq (by
    refine X119.arraylength hx (by rw [e119]; exact Ar121.1) (State.isArrayOf_alike hZ.alike Ar121.2.1) (g := (mkF m 8 #[.val (.ref a), .val (.int v4)] [(.ref b), (.int (4 : Int32))])) rfl rfl (hb hby d5_8) _ ?_
    rw [len_of S121 M121]
    show Steps p.tables e below (T119.setTop (mkF m 9 #[.val (.ref a), .val (.int v4)] [(.int (1024 : Int32)), (.int (4 : Int32))])) _
    refine XS.icmpYes X119.here hx rfl (pc0 := 9) (pc' := 29) rfl (hb hby d5_9) rfl (by decide) (by decide) (by decide) ?_
    show Steps p.tables e below (T119.setTop (mkF m 29 #[.val (.ref a), .val (.int v4)] [])) _
    refine XS.aloadN X119.here hx rfl (hb hby d5_29) rfl rfl ?_
    show Steps p.tables e below (T119.setTop (mkF m 30 #[.val (.ref a), .val (.int v4)] [(.ref a)])) _
    exact kq)
  obtain ⟨T123, X123, e123, st123⟩ := getF X119 hx hZ hown (host := "") (Or.inl (hw _ (List.mem_of_getElem? (i := 19) rfl))) Via.refl e119 F1 (g := (mkF m 30 #[.val (.ref a), .val (.int v4)] [(.ref a)])) rfl rfl (hb hby d5_30)
  have G124 : Go p e below A0 (T123.setTop (mkF m 33 #[.val (.ref a), .val (.int v4)] [(.ref b)])) := fun tq kq => G122 tq (st123 _ kq)
  have G125 : Go p e below A0 (T123.setTop (mkF m 35 #[.val (.ref a), .val (.int v4)] [(.ref a), (.ref a), (.ref b)])) := fun tq kq => G124 tq (by
    refine XS.aloadN X123.here hx rfl (hb hby d5_33) rfl rfl ?_
    show Steps p.tables e below (T123.setTop (mkF m 34 #[.val (.ref a), .val (.int v4)] [(.ref a), (.ref b)])) _
    refine XS.dup X123.here hx rfl (hb hby d5_34) rfl rfl ?_
    show Steps p.tables e below (T123.setTop (mkF m 35 #[.val (.ref a), .val (.int v4)] [(.ref a), (.ref a), (.ref b)])) _
    exact kq)
  obtain ⟨T126, X126, e126, st126⟩ := getF X123 hx hZ hown (host := "") (Or.inl (hw _ (List.mem_of_getElem? (i := 28) rfl))) Via.refl e123 F2 (g := (mkF m 35 #[.val (.ref a), .val (.int v4)] [(.ref a), (.ref a), (.ref b)])) rfl rfl (hb hby d5_35)
  have G127 : Go p e below A0 (T126.setTop (mkF m 38 #[.val (.ref a), .val (.int v4)] [(.int (4 : Int32)), (.ref a), (.ref b)])) := fun tq kq => G125 tq (st126 _ kq)
  have G128 : Go p e below A0 (T126.setTop (mkF m 41 #[.val (.ref a), .val (.int v4)] [(.int (5 : Int32)), (.ref a), (.int (4 : Int32)), (.ref b)])) := fun tq kq => G127 tq (by
    refine XS.dupX1 X126.here hx rfl (hb hby d5_38) rfl rfl rfl ?_
    show Steps p.tables e below (T126.setTop (mkF m 39 #[.val (.ref a), .val (.int v4)] [(.int (4 : Int32)), (.ref a), (.int (4 : Int32)), (.ref b)])) _
    refine XS.iconst X126.here hx rfl (hb hby d5_39) ?_
    show Steps p.tables e below (T126.setTop (mkF m 40 #[.val (.ref a), .val (.int v4)] [(.int (1 : Int32)), (.int (4 : Int32)), (.ref a), (.int (4 : Int32)), (.ref b)])) _
    refine XS.iadd X126.here hx rfl (hb hby d5_40) rfl ?_
    show Steps p.tables e below (T126.setTop (mkF m 41 #[.val (.ref a), .val (.int v4)] [(.int ((4 : Int32) + (1 : Int32))), (.ref a), (.int (4 : Int32)), (.ref b)])) _
    rw [show ((4 : Int32) + (1 : Int32)) = (5 : Int32) from (by decide : ((4 : Int32) + (1 : Int32)) = (5 : Int32))]
    show Steps p.tables e below (T126.setTop (mkF m 41 #[.val (.ref a), .val (.int v4)] [(.int (5 : Int32)), (.ref a), (.int (4 : Int32)), (.ref b)])) _
    exact kq)
  obtain ⟨T129, h129, X129, e129, W129, st129⟩ := putF X126 hx hZ hown (host := "") (Or.inl (hw _ (List.mem_of_getElem? (i := 28) rfl))) Via.refl e126 F2 E (Or.inl (hw _ (List.mem_of_getElem? (i := 29) rfl))) (hw _ (List.mem_of_getElem? (i := 2) rfl)) (ty := .int) (by decide) rfl rfl (g := (mkF m 41 #[.val (.ref a), .val (.int v4)] [(.int (5 : Int32)), (.ref a), (.int (4 : Int32)), (.ref b)])) rfl rfl (hb hby d5_41)
  have N129 := Fr.snoc X129 N0 ga
  have fw129 := F2.same W129
  have G130 : Go p e below A0 (T129.setTop (mkF m 44 #[.val (.ref a), .val (.int v4)] [(.int (4 : Int32)), (.ref b)])) := fun tq kq => G128 tq (st129 _ kq)
  have G131 : Go p e below A0 (T129.setTop (mkF m 45 #[.val (.ref a), .val (.int v4)] [(.int v4), (.int (4 : Int32)), (.ref b)])) := fun tq kq => G130 tq (by
    refine XS.iloadN X129.here hx rfl (hb hby d5_44) rfl ?_
    show Steps p.tables e below (T129.setTop (mkF m 45 #[.val (.ref a), .val (.int v4)] [(.int v4), (.int (4 : Int32)), (.ref b)])) _
    exact kq)
  have f132 := (Ap.other W129 (Ne.symm hab))
  obtain ⟨cl133, Ar133, q133, S133, M133, H133, Gf133⟩ := id f132
  have hi134 : ¬ ((4 : Int32) < 0 ∨ cl133.slots.size ≤ ((4 : Int32)).toNatClampNeg) := (inb_of S133 ⟨by decide, by decide⟩)
  obtain ⟨T135, h135, X135, e135, W135, st135⟩ := stZ X129 hx hZ e129 Ar133 (j := (4 : Int32)) hi134 (g := (mkF m 45 #[.val (.ref a), .val (.int v4)] [(.int v4), (.int (4 : Int32)), (.ref b)])) rfl rfl (hb hby d5_45)
  rw [show nar .boolean v4 = v4 from own_nar01 hbv] at W135
  have N135 := Fr.snoc X135 N129 gb
  have V135 := Arv.set Ar133 q133 S133 M133 H133 Gf133 (own_fit01 hbv) W135 4 rfl (Nat.le_of_ble_eq_true rfl)
  have V135' : Arv Z h135 b kb .boolean (1024 : Int32) [(.int v0), (.int v1), (.int v2), (.int v3), (.int v4)] (.int (0 : Int32)) := by simp only [List.set_cons_succ, List.set_cons_zero] at V135; exact V135
  have G136 : Go p e below A0 (T135.setTop (mkF m 46 #[.val (.ref a), .val (.int v4)] [])) := fun tq kq => G131 tq (st135 _ kq)
  have f137 := ((F1.other W129 (Or.inr (slot_ne (Or.inl (hw _ (List.mem_of_getElem? (i := 20) rfl))) (Or.inl (hw _ (List.mem_of_getElem? (i := 29) rfl))) (by decide) (t := (.array .boolean)) (t' := .int) (by decide) (by decide)))).other W135 (Or.inl hab))
  have f138 := (fw129.other W135 (Or.inl hab))
  obtain ⟨fs, hr, hrun, hended, hW, hsame⟩ := X135.leave (v := none) (fun _ => rfl)
  refine ⟨_, _, (by rw [← hA0]; exact G136 _ (X135.returnOut hx Bd.returns (hb hby d5_46) hr)), hrun, hended, _, _, rfl, ?_, ⟨_, rfl⟩, hW, hsame.mono (by decide) (by decide)⟩
  show Qa4 Z a b kb v0 v1 v2 v3 v4 h0 n0 _ T135.heap _
  rw [e135]
  exact ⟨rfl, N135, (((Keep.refl h0 [a, b]).wr W129 (Or.inl (List.mem_of_getElem? (i := 0) rfl))).wr W135 (Or.inl (List.mem_of_getElem? (i := 1) rfl))), f137, f138, V135'⟩
def Qo0 (Z : State)  (h0 : Heap) (n0 : Nat) (v : Option Value) (h : Heap) (L : List Loc) : Prop := ∃ r kr, v = some (.ref r) ∧ Fr n0 L ∧ Keep h0 h [] ∧ Af Z h r kr .int (0 : Int32) (own_g0_0)
set_option maxRecDepth 65536 in
set_option maxHeartbeats 40000000 in
theorem rmO0 (l : Launch) (Z : State) (a0 : Array Value) (hw : ∀ d ∈ tables_1, d.before a0 Z = true) (ws : List Jvm.Cond) (a b : Addr) (kb : ClassId)  (h0 : Heap) (n0 : Nat) (Z0 : n0 ≤ h0.size) (F1 : Fld Z h0 a "com/example/tube2/tube2/trace/BooleanSignal" "values" "[Z" (.ref b)) (F2 : Fld Z h0 a "com/example/tube2/tube2/trace/BooleanSignal" "size" "I" (.int (0 : Int32))) (A : Arv Z h0 b kb .boolean (1024 : Int32) [] (.int (0 : Int32))) :
    MetFree l (⟨"com/example/tube2/tube2/trace/BooleanSignal", "order", "()[I"⟩ : MethodName) (head1 (Jvm.Cond.code (⟨"com/example/tube2/tube2/trace/BooleanSignal", "order", "()[I"⟩ : MethodName) prog_91_method_10_code 6 (some (.array .int)) :: ws) ({ frames := 0, cells := 1, slots := 5, locals := 0 } : Room)) (fun aa UU => aa = #[(.ref a)] ∧ Z.Warmed39 UU.vm ∧ UU.heap = h0) (fun _ _ _ _ _ => True) (fun _ UU oo U' => ∃ v L, oo = .returned v ∧ Qo0 Z  h0 n0 v U'.heap L ∧ FrameEnd UU oo U' L ({ frames := 0, cells := 1, slots := 5, locals := 0 } : Room).cells ({ frames := 0, cells := 1, slots := 5, locals := 0 } : Room).slots) := by
  refine MetFree.of_bodySF (plainFor_of_name pn_0) hisR ?_
  intro p e s m args below meth c s₁ Bd hml0 hP hK
  obtain ⟨rfl, hZ, hh⟩ := hP
  have hx := Bd.exec
  have hby := Bd.bytes
  have hml : c.maxLocals = 6 := hml0
  have hown : s.vm.findClass "com/example/tube2/tube2/trace/BooleanSignal" = some m.cls := findClass_of_methodNamed Bd.named
  have hnm := (name_of_methodNamed Bd.named Bd.method).1
  have X0 : Stand p l e ({ frames := 0, cells := 1, slots := 5, locals := 0 } : Room) s m #[(.ref a)] below meth c s₁ [] 0 0 := Stand.of_body Bd
  have e0 : s₁.heap = h0 := by rw [← hh, Bd.state]; rfl
  have N0 := Fr.nil n0
  obtain ⟨A0, hA0⟩ : ∃ A, A = s₁.setTop (entryFrame m #[(.ref a)] 6) := ⟨_, rfl⟩
  have G0 : Go p e below A0 (s₁.setTop (mkF m 0 #[.val (.ref a), .unset, .unset, .unset, .unset, .unset] [])) := fun tq kq => by rw [hA0]; exact castTop (ef_rmO0 m a) kq
  have G139 : Go p e below A0 (s₁.setTop (mkF m 1 #[.val (.ref a), .unset, .unset, .unset, .unset, .unset] [(.ref a)])) := fun tq kq => G0 tq (by
    refine XS.aloadN X0.here hx rfl (hb hby d3_0) rfl rfl ?_
    show Steps p.tables e below (s₁.setTop (mkF m 1 #[.val (.ref a), .unset, .unset, .unset, .unset, .unset] [(.ref a)])) _
    exact kq)
  obtain ⟨T140, X140, e140, st140⟩ := getF X0 hx hZ hown (host := "") (Or.inl (hw _ (List.mem_of_getElem? (i := 28) rfl))) Via.refl e0 F2 (g := (mkF m 1 #[.val (.ref a), .unset, .unset, .unset, .unset, .unset] [(.ref a)])) rfl rfl (hb hby d3_1)
  have G141 : Go p e below A0 (T140.setTop (mkF m 4 #[.val (.ref a), .unset, .unset, .unset, .unset, .unset] [(.int (0 : Int32))])) := fun tq kq => G139 tq (st140 _ kq)
  obtain ⟨T142, h142, k142, X142, e142, E142, A142, st142⟩ := newP X140 hx hZ (hw _ (List.mem_of_getElem? (i := 30) rfl)) e140 (g := (mkF m 4 #[.val (.ref a), .unset, .unset, .unset, .unset, .unset] [(.int (0 : Int32))])) rfl (hb hby d3_4) rfl (by decide) (cap := 0) (by decide) (by decide) (by decide) (by decide)
  obtain ⟨b142, g142⟩ : ∃ z, z = h0.size := ⟨_, rfl⟩
  rw [← g142] at A142 st142
  have sz_b142 : h0.size ≤ b142 := Nat.le_trans (Nat.le_refl h0.size) (Nat.le_of_eq g142.symm)
  have g_b142 : n0 ≤ b142 := Nat.le_trans Z0 (Nat.le_of_eq g142.symm)
  have ne_a_b142 : a ≠ b142 := Nat.ne_of_lt (Nat.lt_of_lt_of_le F1.lt (Nat.le_of_eq g142.symm))
  have ne_b_b142 : b ≠ b142 := Nat.ne_of_lt (Nat.lt_of_lt_of_le A.lt (Nat.le_of_eq g142.symm))
  have V142 : Arv Z h142 b142 k142 .int (0 : Int32) [] (.int (0 : Int32)) := (Arv.new A142 (by decide)).pad (pad_rep [] (.int (0 : Int32)) 0)
  have G143 : Go p e below A0 (T142.setTop (mkF m 6 #[.val (.ref a), .unset, .unset, .unset, .unset, .unset] [(.ref b142)])) := fun tq kq => G141 tq (st142 _ kq)
  have Af0 : Af Z h142 b142 k142 .int (0 : Int32) (own_g0_0) := Af.of V142
  have G144 : Go p e below A0 (T142.setTop (mkF m 13 #[.val (.ref a), .val (.ref b142), .val (.int (0 : Int32)), .val (.int (0 : Int32)), .unset, .unset] [(.ref a), (.int (0 : Int32))])) := fun tq kq => G143 tq (by
    refine XS.astoreN X142.here hx rfl (hb hby d3_6) rfl rfl (l' := #[.val (.ref a), .val (.ref b142), .unset, .unset, .unset, .unset]) rfl ?_
    show Steps p.tables e below (T142.setTop (mkF m 7 #[.val (.ref a), .val (.ref b142), .unset, .unset, .unset, .unset] [])) _
    refine XS.iconst X142.here hx rfl (hb hby d3_7) ?_
    show Steps p.tables e below (T142.setTop (mkF m 8 #[.val (.ref a), .val (.ref b142), .unset, .unset, .unset, .unset] [(.int (0 : Int32))])) _
    refine XS.istoreN X142.here hx rfl (hb hby d3_8) rfl (l' := #[.val (.ref a), .val (.ref b142), .val (.int (0 : Int32)), .unset, .unset, .unset]) rfl ?_
    show Steps p.tables e below (T142.setTop (mkF m 9 #[.val (.ref a), .val (.ref b142), .val (.int (0 : Int32)), .unset, .unset, .unset] [])) _
    refine XS.iconst X142.here hx rfl (hb hby d3_9) ?_
    show Steps p.tables e below (T142.setTop (mkF m 10 #[.val (.ref a), .val (.ref b142), .val (.int (0 : Int32)), .unset, .unset, .unset] [(.int (0 : Int32))])) _
    refine XS.istoreN X142.here hx rfl (hb hby d3_10) rfl (l' := #[.val (.ref a), .val (.ref b142), .val (.int (0 : Int32)), .val (.int (0 : Int32)), .unset, .unset]) rfl ?_
    show Steps p.tables e below (T142.setTop (mkF m 11 #[.val (.ref a), .val (.ref b142), .val (.int (0 : Int32)), .val (.int (0 : Int32)), .unset, .unset] [])) _
    refine XS.iloadN X142.here hx rfl (hb hby d3_11) rfl ?_
    show Steps p.tables e below (T142.setTop (mkF m 12 #[.val (.ref a), .val (.ref b142), .val (.int (0 : Int32)), .val (.int (0 : Int32)), .unset, .unset] [(.int (0 : Int32))])) _
    refine XS.aloadN X142.here hx rfl (hb hby d3_12) rfl rfl ?_
    show Steps p.tables e below (T142.setTop (mkF m 13 #[.val (.ref a), .val (.ref b142), .val (.int (0 : Int32)), .val (.int (0 : Int32)), .unset, .unset] [(.ref a), (.int (0 : Int32))])) _
    exact kq)
  have f145 := (F2.ext E142)
  obtain ⟨T146, X146, e146, st146⟩ := getF X142 hx hZ hown (host := "") (Or.inl (hw _ (List.mem_of_getElem? (i := 28) rfl))) Via.refl e142 f145 (g := (mkF m 13 #[.val (.ref a), .val (.ref b142), .val (.int (0 : Int32)), .val (.int (0 : Int32)), .unset, .unset] [(.ref a), (.int (0 : Int32))])) rfl rfl (hb hby d3_13)
  have G147 : Go p e below A0 (T146.setTop (mkF m 16 #[.val (.ref a), .val (.ref b142), .val (.int (0 : Int32)), .val (.int (0 : Int32)), .unset, .unset] [(.int (0 : Int32)), (.int (0 : Int32))])) := fun tq kq => G144 tq (st146 _ kq)
  have G148 : Go p e below A0 (T146.setTop (mkF m 53 #[.val (.ref a), .val (.ref b142), .val (.int (0 : Int32)), .val (.int (0 : Int32)), .val (.int (0 : Int32)), .val (.int (0 : Int32))] [(.ref a), (.int (0 : Int32))])) := fun tq kq => G147 tq (by
    refine XS.icmpYes X146.here hx rfl (pc0 := 16) (pc' := 42) rfl (hb hby d3_16) rfl (by decide) (by decide) (by decide) ?_
    show Steps p.tables e below (T146.setTop (mkF m 42 #[.val (.ref a), .val (.ref b142), .val (.int (0 : Int32)), .val (.int (0 : Int32)), .unset, .unset] [])) _
    refine XS.iconst X146.here hx rfl (hb hby d3_42) ?_
    show Steps p.tables e below (T146.setTop (mkF m 43 #[.val (.ref a), .val (.ref b142), .val (.int (0 : Int32)), .val (.int (0 : Int32)), .unset, .unset] [(.int (0 : Int32))])) _
    refine XS.istoreN X146.here hx rfl (hb hby d3_43) rfl (l' := #[.val (.ref a), .val (.ref b142), .val (.int (0 : Int32)), .val (.int (0 : Int32)), .unset, .unset]) rfl ?_
    show Steps p.tables e below (T146.setTop (mkF m 44 #[.val (.ref a), .val (.ref b142), .val (.int (0 : Int32)), .val (.int (0 : Int32)), .unset, .unset] [])) _
    refine XS.iloadN X146.here hx rfl (hb hby d3_44) rfl ?_
    show Steps p.tables e below (T146.setTop (mkF m 45 #[.val (.ref a), .val (.ref b142), .val (.int (0 : Int32)), .val (.int (0 : Int32)), .unset, .unset] [(.int (0 : Int32))])) _
    refine XS.istore X146.here hx rfl (hb hby d3_45) rfl (l' := #[.val (.ref a), .val (.ref b142), .val (.int (0 : Int32)), .val (.int (0 : Int32)), .val (.int (0 : Int32)), .unset]) rfl ?_
    show Steps p.tables e below (T146.setTop (mkF m 47 #[.val (.ref a), .val (.ref b142), .val (.int (0 : Int32)), .val (.int (0 : Int32)), .val (.int (0 : Int32)), .unset] [])) _
    refine XS.iconst X146.here hx rfl (hb hby d3_47) ?_
    show Steps p.tables e below (T146.setTop (mkF m 48 #[.val (.ref a), .val (.ref b142), .val (.int (0 : Int32)), .val (.int (0 : Int32)), .val (.int (0 : Int32)), .unset] [(.int (0 : Int32))])) _
    refine XS.istore X146.here hx rfl (hb hby d3_48) rfl (l' := #[.val (.ref a), .val (.ref b142), .val (.int (0 : Int32)), .val (.int (0 : Int32)), .val (.int (0 : Int32)), .val (.int (0 : Int32))]) rfl ?_
    show Steps p.tables e below (T146.setTop (mkF m 50 #[.val (.ref a), .val (.ref b142), .val (.int (0 : Int32)), .val (.int (0 : Int32)), .val (.int (0 : Int32)), .val (.int (0 : Int32))] [])) _
    refine XS.iload X146.here hx rfl (hb hby d3_50) rfl ?_
    show Steps p.tables e below (T146.setTop (mkF m 52 #[.val (.ref a), .val (.ref b142), .val (.int (0 : Int32)), .val (.int (0 : Int32)), .val (.int (0 : Int32)), .val (.int (0 : Int32))] [(.int (0 : Int32))])) _
    refine XS.aloadN X146.here hx rfl (hb hby d3_52) rfl rfl ?_
    show Steps p.tables e below (T146.setTop (mkF m 53 #[.val (.ref a), .val (.ref b142), .val (.int (0 : Int32)), .val (.int (0 : Int32)), .val (.int (0 : Int32)), .val (.int (0 : Int32))] [(.ref a), (.int (0 : Int32))])) _
    exact kq)
  obtain ⟨T149, X149, e149, st149⟩ := getF X146 hx hZ hown (host := "") (Or.inl (hw _ (List.mem_of_getElem? (i := 28) rfl))) Via.refl e146 f145 (g := (mkF m 53 #[.val (.ref a), .val (.ref b142), .val (.int (0 : Int32)), .val (.int (0 : Int32)), .val (.int (0 : Int32)), .val (.int (0 : Int32))] [(.ref a), (.int (0 : Int32))])) rfl rfl (hb hby d3_53)
  have G150 : Go p e below A0 (T149.setTop (mkF m 56 #[.val (.ref a), .val (.ref b142), .val (.int (0 : Int32)), .val (.int (0 : Int32)), .val (.int (0 : Int32)), .val (.int (0 : Int32))] [(.int (0 : Int32)), (.int (0 : Int32))])) := fun tq kq => G148 tq (st149 _ kq)
  have G151 : Go p e below A0 (T149.setTop (mkF m 92 #[.val (.ref a), .val (.ref b142), .val (.int (0 : Int32)), .val (.int (0 : Int32)), .val (.int (0 : Int32)), .val (.int (0 : Int32))] [(.ref b142)])) := fun tq kq => G150 tq (by
    refine XS.icmpYes X149.here hx rfl (pc0 := 56) (pc' := 91) rfl (hb hby d3_56) rfl (by decide) (by decide) (by decide) ?_
    show Steps p.tables e below (T149.setTop (mkF m 91 #[.val (.ref a), .val (.ref b142), .val (.int (0 : Int32)), .val (.int (0 : Int32)), .val (.int (0 : Int32)), .val (.int (0 : Int32))] [])) _
    refine XS.aloadN X149.here hx rfl (hb hby d3_91) rfl rfl ?_
    show Steps p.tables e below (T149.setTop (mkF m 92 #[.val (.ref a), .val (.ref b142), .val (.int (0 : Int32)), .val (.int (0 : Int32)), .val (.int (0 : Int32)), .val (.int (0 : Int32))] [(.ref b142)])) _
    exact kq)
  obtain ⟨fs, hr, hrun, hended, hW, hsame⟩ := X149.leave (v := some (.ref b142)) (fun h => by rw [Bd.returns] at h; cases h)
  refine ⟨_, _, (by rw [← hA0]; exact G151 _ (retOut X149 hx (t := (.array .int)) Bd.returns rfl (Or.inr (Or.inr (Or.inr (Or.inr ⟨rfl, rfl, rfl⟩)))) (hb hby d3_92) hr)), hrun, hended, _, _, rfl, ?_, ⟨_, rfl⟩, hW, hsame.mono (by decide) (by decide)⟩
  show Qo0 Z  h0 n0 _ T149.heap _
  rw [e149]
  exact ⟨_, _, rfl, N0, ((Keep.refl h0 []).ext E142), Af0⟩
def Qo1 (Z : State) (v0 : Int32) (h0 : Heap) (n0 : Nat) (v : Option Value) (h : Heap) (L : List Loc) : Prop := ∃ r kr, v = some (.ref r) ∧ Fr n0 L ∧ Keep h0 h [] ∧ Af Z h r kr .int (1 : Int32) (own_g1_1 v0)
set_option maxRecDepth 65536 in
set_option maxHeartbeats 40000000 in
theorem rmO1 (l : Launch) (Z : State) (a0 : Array Value) (hw : ∀ d ∈ tables_1, d.before a0 Z = true) (ws : List Jvm.Cond) (a b : Addr) (kb : ClassId) (v0 : Int32) (h0 : Heap) (n0 : Nat) (Z0 : n0 ≤ h0.size) (F1 : Fld Z h0 a "com/example/tube2/tube2/trace/BooleanSignal" "values" "[Z" (.ref b)) (F2 : Fld Z h0 a "com/example/tube2/tube2/trace/BooleanSignal" "size" "I" (.int (1 : Int32))) (A : Arv Z h0 b kb .boolean (1024 : Int32) [(.int v0)] (.int (0 : Int32))) (hb0 : v0 = (0 : Int32) ∨ v0 = (1 : Int32)) :
    MetFree l (⟨"com/example/tube2/tube2/trace/BooleanSignal", "order", "()[I"⟩ : MethodName) (head1 (Jvm.Cond.code (⟨"com/example/tube2/tube2/trace/BooleanSignal", "order", "()[I"⟩ : MethodName) prog_91_method_10_code 6 (some (.array .int)) :: ws) ({ frames := 0, cells := 1, slots := 5, locals := 0 } : Room)) (fun aa UU => aa = #[(.ref a)] ∧ Z.Warmed39 UU.vm ∧ UU.heap = h0) (fun _ _ _ _ _ => True) (fun _ UU oo U' => ∃ v L, oo = .returned v ∧ Qo1 Z v0 h0 n0 v U'.heap L ∧ FrameEnd UU oo U' L ({ frames := 0, cells := 1, slots := 5, locals := 0 } : Room).cells ({ frames := 0, cells := 1, slots := 5, locals := 0 } : Room).slots) := by
  refine MetFree.of_bodySF (plainFor_of_name pn_0) hisR ?_
  intro p e s m args below meth c s₁ Bd hml0 hP hK
  obtain ⟨rfl, hZ, hh⟩ := hP
  have hx := Bd.exec
  have hby := Bd.bytes
  have hml : c.maxLocals = 6 := hml0
  have hown : s.vm.findClass "com/example/tube2/tube2/trace/BooleanSignal" = some m.cls := findClass_of_methodNamed Bd.named
  have hnm := (name_of_methodNamed Bd.named Bd.method).1
  have X0 : Stand p l e ({ frames := 0, cells := 1, slots := 5, locals := 0 } : Room) s m #[(.ref a)] below meth c s₁ [] 0 0 := Stand.of_body Bd
  have e0 : s₁.heap = h0 := by rw [← hh, Bd.state]; rfl
  have N0 := Fr.nil n0
  obtain ⟨A0, hA0⟩ : ∃ A, A = s₁.setTop (entryFrame m #[(.ref a)] 6) := ⟨_, rfl⟩
  have G0 : Go p e below A0 (s₁.setTop (mkF m 0 #[.val (.ref a), .unset, .unset, .unset, .unset, .unset] [])) := fun tq kq => by rw [hA0]; exact castTop (ef_rmO1 m a) kq
  have G152 : Go p e below A0 (s₁.setTop (mkF m 1 #[.val (.ref a), .unset, .unset, .unset, .unset, .unset] [(.ref a)])) := fun tq kq => G0 tq (by
    refine XS.aloadN X0.here hx rfl (hb hby d3_0) rfl rfl ?_
    show Steps p.tables e below (s₁.setTop (mkF m 1 #[.val (.ref a), .unset, .unset, .unset, .unset, .unset] [(.ref a)])) _
    exact kq)
  obtain ⟨T153, X153, e153, st153⟩ := getF X0 hx hZ hown (host := "") (Or.inl (hw _ (List.mem_of_getElem? (i := 28) rfl))) Via.refl e0 F2 (g := (mkF m 1 #[.val (.ref a), .unset, .unset, .unset, .unset, .unset] [(.ref a)])) rfl rfl (hb hby d3_1)
  have G154 : Go p e below A0 (T153.setTop (mkF m 4 #[.val (.ref a), .unset, .unset, .unset, .unset, .unset] [(.int (1 : Int32))])) := fun tq kq => G152 tq (st153 _ kq)
  obtain ⟨T155, h155, k155, X155, e155, E155, A155, st155⟩ := newP X153 hx hZ (hw _ (List.mem_of_getElem? (i := 30) rfl)) e153 (g := (mkF m 4 #[.val (.ref a), .unset, .unset, .unset, .unset, .unset] [(.int (1 : Int32))])) rfl (hb hby d3_4) rfl (by decide) (cap := 1) (by decide) (by decide) (by decide) (by decide)
  obtain ⟨b155, g155⟩ : ∃ z, z = h0.size := ⟨_, rfl⟩
  rw [← g155] at A155 st155
  have sz_b155 : h0.size ≤ b155 := Nat.le_trans (Nat.le_refl h0.size) (Nat.le_of_eq g155.symm)
  have g_b155 : n0 ≤ b155 := Nat.le_trans Z0 (Nat.le_of_eq g155.symm)
  have ne_a_b155 : a ≠ b155 := Nat.ne_of_lt (Nat.lt_of_lt_of_le F1.lt (Nat.le_of_eq g155.symm))
  have ne_b_b155 : b ≠ b155 := Nat.ne_of_lt (Nat.lt_of_lt_of_le A.lt (Nat.le_of_eq g155.symm))
  have V155 : Arv Z h155 b155 k155 .int (1 : Int32) [(.int (0 : Int32))] (.int (0 : Int32)) := (Arv.new A155 (by decide)).pad (pad_rep [] (.int (0 : Int32)) 1)
  have G156 : Go p e below A0 (T155.setTop (mkF m 6 #[.val (.ref a), .unset, .unset, .unset, .unset, .unset] [(.ref b155)])) := fun tq kq => G154 tq (st155 _ kq)
  have Af0 : Af Z h155 b155 k155 .int (1 : Int32) (own_g1_0 v0) := Af.of V155
  have G157 : Go p e below A0 (T155.setTop (mkF m 13 #[.val (.ref a), .val (.ref b155), .val (.int (0 : Int32)), .val (.int (0 : Int32)), .unset, .unset] [(.ref a), (.int (0 : Int32))])) := fun tq kq => G156 tq (by
    refine XS.astoreN X155.here hx rfl (hb hby d3_6) rfl rfl (l' := #[.val (.ref a), .val (.ref b155), .unset, .unset, .unset, .unset]) rfl ?_
    show Steps p.tables e below (T155.setTop (mkF m 7 #[.val (.ref a), .val (.ref b155), .unset, .unset, .unset, .unset] [])) _
    refine XS.iconst X155.here hx rfl (hb hby d3_7) ?_
    show Steps p.tables e below (T155.setTop (mkF m 8 #[.val (.ref a), .val (.ref b155), .unset, .unset, .unset, .unset] [(.int (0 : Int32))])) _
    refine XS.istoreN X155.here hx rfl (hb hby d3_8) rfl (l' := #[.val (.ref a), .val (.ref b155), .val (.int (0 : Int32)), .unset, .unset, .unset]) rfl ?_
    show Steps p.tables e below (T155.setTop (mkF m 9 #[.val (.ref a), .val (.ref b155), .val (.int (0 : Int32)), .unset, .unset, .unset] [])) _
    refine XS.iconst X155.here hx rfl (hb hby d3_9) ?_
    show Steps p.tables e below (T155.setTop (mkF m 10 #[.val (.ref a), .val (.ref b155), .val (.int (0 : Int32)), .unset, .unset, .unset] [(.int (0 : Int32))])) _
    refine XS.istoreN X155.here hx rfl (hb hby d3_10) rfl (l' := #[.val (.ref a), .val (.ref b155), .val (.int (0 : Int32)), .val (.int (0 : Int32)), .unset, .unset]) rfl ?_
    show Steps p.tables e below (T155.setTop (mkF m 11 #[.val (.ref a), .val (.ref b155), .val (.int (0 : Int32)), .val (.int (0 : Int32)), .unset, .unset] [])) _
    refine XS.iloadN X155.here hx rfl (hb hby d3_11) rfl ?_
    show Steps p.tables e below (T155.setTop (mkF m 12 #[.val (.ref a), .val (.ref b155), .val (.int (0 : Int32)), .val (.int (0 : Int32)), .unset, .unset] [(.int (0 : Int32))])) _
    refine XS.aloadN X155.here hx rfl (hb hby d3_12) rfl rfl ?_
    show Steps p.tables e below (T155.setTop (mkF m 13 #[.val (.ref a), .val (.ref b155), .val (.int (0 : Int32)), .val (.int (0 : Int32)), .unset, .unset] [(.ref a), (.int (0 : Int32))])) _
    exact kq)
  have f158 := (F2.ext E155)
  obtain ⟨T159, X159, e159, st159⟩ := getF X155 hx hZ hown (host := "") (Or.inl (hw _ (List.mem_of_getElem? (i := 28) rfl))) Via.refl e155 f158 (g := (mkF m 13 #[.val (.ref a), .val (.ref b155), .val (.int (0 : Int32)), .val (.int (0 : Int32)), .unset, .unset] [(.ref a), (.int (0 : Int32))])) rfl rfl (hb hby d3_13)
  have G160 : Go p e below A0 (T159.setTop (mkF m 16 #[.val (.ref a), .val (.ref b155), .val (.int (0 : Int32)), .val (.int (0 : Int32)), .unset, .unset] [(.int (1 : Int32)), (.int (0 : Int32))])) := fun tq kq => G157 tq (st159 _ kq)
  have G161 : Go p e below A0 (T159.setTop (mkF m 21 #[.val (.ref a), .val (.ref b155), .val (.int (0 : Int32)), .val (.int (0 : Int32)), .unset, .unset] [(.ref a), (.int (0 : Int32))])) := fun tq kq => G160 tq (by
    refine XS.icmpNo X159.here hx rfl (hb hby d3_16) rfl (by decide) ?_
    show Steps p.tables e below (T159.setTop (mkF m 19 #[.val (.ref a), .val (.ref b155), .val (.int (0 : Int32)), .val (.int (0 : Int32)), .unset, .unset] [])) _
    refine XS.iloadN X159.here hx rfl (hb hby d3_19) rfl ?_
    show Steps p.tables e below (T159.setTop (mkF m 20 #[.val (.ref a), .val (.ref b155), .val (.int (0 : Int32)), .val (.int (0 : Int32)), .unset, .unset] [(.int (0 : Int32))])) _
    refine XS.aloadN X159.here hx rfl (hb hby d3_20) rfl rfl ?_
    show Steps p.tables e below (T159.setTop (mkF m 21 #[.val (.ref a), .val (.ref b155), .val (.int (0 : Int32)), .val (.int (0 : Int32)), .unset, .unset] [(.ref a), (.int (0 : Int32))])) _
    exact kq)
  have f162 := (F1.ext E155)
  obtain ⟨T163, X163, e163, st163⟩ := getF X159 hx hZ hown (host := "") (Or.inl (hw _ (List.mem_of_getElem? (i := 19) rfl))) Via.refl e159 f162 (g := (mkF m 21 #[.val (.ref a), .val (.ref b155), .val (.int (0 : Int32)), .val (.int (0 : Int32)), .unset, .unset] [(.ref a), (.int (0 : Int32))])) rfl rfl (hb hby d3_21)
  have G164 : Go p e below A0 (T163.setTop (mkF m 24 #[.val (.ref a), .val (.ref b155), .val (.int (0 : Int32)), .val (.int (0 : Int32)), .unset, .unset] [(.ref b), (.int (0 : Int32))])) := fun tq kq => G161 tq (st163 _ kq)
  have G165 : Go p e below A0 (T163.setTop (mkF m 25 #[.val (.ref a), .val (.ref b155), .val (.int (0 : Int32)), .val (.int (0 : Int32)), .unset, .unset] [(.int (0 : Int32)), (.ref b), (.int (0 : Int32))])) := fun tq kq => G164 tq (by
    refine XS.iloadN X163.here hx rfl (hb hby d3_24) rfl ?_
    show Steps p.tables e below (T163.setTop (mkF m 25 #[.val (.ref a), .val (.ref b155), .val (.int (0 : Int32)), .val (.int (0 : Int32)), .unset, .unset] [(.int (0 : Int32)), (.ref b), (.int (0 : Int32))])) _
    exact kq)
  have f166 := (A.ext E155)
  obtain ⟨cl167, Ar167, q167, S167, M167, H167, Gf167⟩ := id f166
  have hi168 : ¬ ((0 : Int32) < 0 ∨ cl167.slots.size ≤ ((0 : Int32)).toNatClampNeg) := (inb_of S167 ⟨by decide, by decide⟩)
  have G169 : Go p e below A0 (T163.setTop (mkF m 26 #[.val (.ref a), .val (.ref b155), .val (.int (0 : Int32)), .val (.int (0 : Int32)), .unset, .unset] [(.int v0), (.int (0 : Int32))])) := fun tq kq => G165 tq (by
    refine X163.baloadBooleans hx (j := (0 : Int32)) (v := (.int v0)) (by rw [e163]; exact Ar167.1) (State.isArrayOf_alike hZ.alike Ar167.2.1) Ar167.2.2 hi168 (H167.at hi168 rfl) (g := (mkF m 25 #[.val (.ref a), .val (.ref b155), .val (.int (0 : Int32)), .val (.int (0 : Int32)), .unset, .unset] [(.int (0 : Int32)), (.ref b), (.int (0 : Int32))])) rfl rfl (hb hby d3_25) _ ?_
    show Steps p.tables e below (T163.setTop (mkF m 26 #[.val (.ref a), .val (.ref b155), .val (.int (0 : Int32)), .val (.int (0 : Int32)), .unset, .unset] [(.int v0), (.int (0 : Int32))])) _
    exact kq)
  obtain ⟨t0, hG170, G170⟩ : ∃ (t0 : Int32), (t0 = (own_z v0)) ∧ Go p e below A0 (T163.setTop (mkF m 34 #[.val (.ref a), .val (.ref b155), .val (.int (0 : Int32)), .val (.int (0 : Int32)), .unset, .unset] [(.int t0), (.int (0 : Int32))])) := by
    by_cases hc171 : v0 = (0 : Int32)
    · have G172 : Go p e below A0 (T163.setTop (mkF m 34 #[.val (.ref a), .val (.ref b155), .val (.int (0 : Int32)), .val (.int (0 : Int32)), .unset, .unset] [(.int (1 : Int32)), (.int (0 : Int32))])) := fun tq kq => G169 tq (by
        refine XS.ifYes X163.here hx rfl (pc0 := 26) (pc' := 33) rfl (hb hby d3_26) rfl ((if0 _ _).trans (teq hc171).1) (by decide) (by decide) ?_
        show Steps p.tables e below (T163.setTop (mkF m 33 #[.val (.ref a), .val (.ref b155), .val (.int (0 : Int32)), .val (.int (0 : Int32)), .unset, .unset] [(.int (0 : Int32))])) _
        refine XS.iconst X163.here hx rfl (hb hby d3_33) ?_
        show Steps p.tables e below (T163.setTop (mkF m 34 #[.val (.ref a), .val (.ref b155), .val (.int (0 : Int32)), .val (.int (0 : Int32)), .unset, .unset] [(.int (1 : Int32)), (.int (0 : Int32))])) _
        exact kq)
      exact ⟨(1 : Int32), (by simp [own_z, own_b, hc171]), G172⟩
    · have G173 : Go p e below A0 (T163.setTop (mkF m 34 #[.val (.ref a), .val (.ref b155), .val (.int (0 : Int32)), .val (.int (0 : Int32)), .unset, .unset] [(.int (0 : Int32)), (.int (0 : Int32))])) := fun tq kq => G169 tq (by
        refine XS.ifNo X163.here hx rfl (hb hby d3_26) rfl ((if0 _ _).trans (feq hc171).1) ?_
        show Steps p.tables e below (T163.setTop (mkF m 29 #[.val (.ref a), .val (.ref b155), .val (.int (0 : Int32)), .val (.int (0 : Int32)), .unset, .unset] [(.int (0 : Int32))])) _
        refine XS.iconst X163.here hx rfl (hb hby d3_29) ?_
        show Steps p.tables e below (T163.setTop (mkF m 30 #[.val (.ref a), .val (.ref b155), .val (.int (0 : Int32)), .val (.int (0 : Int32)), .unset, .unset] [(.int (0 : Int32)), (.int (0 : Int32))])) _
        refine XS.goto X163.here hx rfl (pc0 := 30) (pc' := 34) rfl (hb hby d3_30) (by decide) (by decide) ?_
        show Steps p.tables e below (T163.setTop (mkF m 34 #[.val (.ref a), .val (.ref b155), .val (.int (0 : Int32)), .val (.int (0 : Int32)), .unset, .unset] [(.int (0 : Int32)), (.int (0 : Int32))])) _
        exact kq)
      exact ⟨(0 : Int32), (by simp [own_z, own_b, hc171]), G173⟩
  subst hG170
  have G174 : Go p e below A0 (T163.setTop (mkF m 13 #[.val (.ref a), .val (.ref b155), .val (.int (own_nf1 v0)), .val (.int (1 : Int32)), .unset, .unset] [(.ref a), (.int (1 : Int32))])) := fun tq kq => G170 tq (by
    refine XS.iadd X163.here hx rfl (hb hby d3_34) rfl ?_
    show Steps p.tables e below (T163.setTop (mkF m 35 #[.val (.ref a), .val (.ref b155), .val (.int (0 : Int32)), .val (.int (0 : Int32)), .unset, .unset] [(.int ((0 : Int32) + (own_z v0)))])) _
    rw [show ((0 : Int32) + (own_z v0)) = (own_nf1 v0) from rfl]
    show Steps p.tables e below (T163.setTop (mkF m 35 #[.val (.ref a), .val (.ref b155), .val (.int (0 : Int32)), .val (.int (0 : Int32)), .unset, .unset] [(.int (own_nf1 v0))])) _
    refine XS.istoreN X163.here hx rfl (hb hby d3_35) rfl (l' := #[.val (.ref a), .val (.ref b155), .val (.int (own_nf1 v0)), .val (.int (0 : Int32)), .unset, .unset]) rfl ?_
    show Steps p.tables e below (T163.setTop (mkF m 36 #[.val (.ref a), .val (.ref b155), .val (.int (own_nf1 v0)), .val (.int (0 : Int32)), .unset, .unset] [])) _
    refine XS.iinc X163.here hx rfl (hb hby d3_36) rfl (l' := #[.val (.ref a), .val (.ref b155), .val (.int (own_nf1 v0)), .val (.int ((0 : Int32) + (1 : Int32))), .unset, .unset]) rfl ?_
    show Steps p.tables e below (T163.setTop (mkF m 39 #[.val (.ref a), .val (.ref b155), .val (.int (own_nf1 v0)), .val (.int ((0 : Int32) + (1 : Int32))), .unset, .unset] [])) _
    rw [show ((0 : Int32) + (1 : Int32)) = (1 : Int32) from (by decide : ((0 : Int32) + (1 : Int32)) = (1 : Int32))]
    show Steps p.tables e below (T163.setTop (mkF m 39 #[.val (.ref a), .val (.ref b155), .val (.int (own_nf1 v0)), .val (.int (1 : Int32)), .unset, .unset] [])) _
    refine XS.goto X163.here hx rfl (pc0 := 39) (pc' := 11) rfl (hb hby d3_39) (by decide) (by decide) ?_
    show Steps p.tables e below (T163.setTop (mkF m 11 #[.val (.ref a), .val (.ref b155), .val (.int (own_nf1 v0)), .val (.int (1 : Int32)), .unset, .unset] [])) _
    refine XS.iloadN X163.here hx rfl (hb hby d3_11) rfl ?_
    show Steps p.tables e below (T163.setTop (mkF m 12 #[.val (.ref a), .val (.ref b155), .val (.int (own_nf1 v0)), .val (.int (1 : Int32)), .unset, .unset] [(.int (1 : Int32))])) _
    refine XS.aloadN X163.here hx rfl (hb hby d3_12) rfl rfl ?_
    show Steps p.tables e below (T163.setTop (mkF m 13 #[.val (.ref a), .val (.ref b155), .val (.int (own_nf1 v0)), .val (.int (1 : Int32)), .unset, .unset] [(.ref a), (.int (1 : Int32))])) _
    exact kq)
  obtain ⟨T175, X175, e175, st175⟩ := getF X163 hx hZ hown (host := "") (Or.inl (hw _ (List.mem_of_getElem? (i := 28) rfl))) Via.refl e163 f158 (g := (mkF m 13 #[.val (.ref a), .val (.ref b155), .val (.int (own_nf1 v0)), .val (.int (1 : Int32)), .unset, .unset] [(.ref a), (.int (1 : Int32))])) rfl rfl (hb hby d3_13)
  have G176 : Go p e below A0 (T175.setTop (mkF m 16 #[.val (.ref a), .val (.ref b155), .val (.int (own_nf1 v0)), .val (.int (1 : Int32)), .unset, .unset] [(.int (1 : Int32)), (.int (1 : Int32))])) := fun tq kq => G174 tq (st175 _ kq)
  have G177 : Go p e below A0 (T175.setTop (mkF m 53 #[.val (.ref a), .val (.ref b155), .val (.int (own_nf1 v0)), .val (.int (0 : Int32)), .val (.int (own_nf1 v0)), .val (.int (0 : Int32))] [(.ref a), (.int (0 : Int32))])) := fun tq kq => G176 tq (by
    refine XS.icmpYes X175.here hx rfl (pc0 := 16) (pc' := 42) rfl (hb hby d3_16) rfl (by decide) (by decide) (by decide) ?_
    show Steps p.tables e below (T175.setTop (mkF m 42 #[.val (.ref a), .val (.ref b155), .val (.int (own_nf1 v0)), .val (.int (1 : Int32)), .unset, .unset] [])) _
    refine XS.iconst X175.here hx rfl (hb hby d3_42) ?_
    show Steps p.tables e below (T175.setTop (mkF m 43 #[.val (.ref a), .val (.ref b155), .val (.int (own_nf1 v0)), .val (.int (1 : Int32)), .unset, .unset] [(.int (0 : Int32))])) _
    refine XS.istoreN X175.here hx rfl (hb hby d3_43) rfl (l' := #[.val (.ref a), .val (.ref b155), .val (.int (own_nf1 v0)), .val (.int (0 : Int32)), .unset, .unset]) rfl ?_
    show Steps p.tables e below (T175.setTop (mkF m 44 #[.val (.ref a), .val (.ref b155), .val (.int (own_nf1 v0)), .val (.int (0 : Int32)), .unset, .unset] [])) _
    refine XS.iloadN X175.here hx rfl (hb hby d3_44) rfl ?_
    show Steps p.tables e below (T175.setTop (mkF m 45 #[.val (.ref a), .val (.ref b155), .val (.int (own_nf1 v0)), .val (.int (0 : Int32)), .unset, .unset] [(.int (own_nf1 v0))])) _
    refine XS.istore X175.here hx rfl (hb hby d3_45) rfl (l' := #[.val (.ref a), .val (.ref b155), .val (.int (own_nf1 v0)), .val (.int (0 : Int32)), .val (.int (own_nf1 v0)), .unset]) rfl ?_
    show Steps p.tables e below (T175.setTop (mkF m 47 #[.val (.ref a), .val (.ref b155), .val (.int (own_nf1 v0)), .val (.int (0 : Int32)), .val (.int (own_nf1 v0)), .unset] [])) _
    refine XS.iconst X175.here hx rfl (hb hby d3_47) ?_
    show Steps p.tables e below (T175.setTop (mkF m 48 #[.val (.ref a), .val (.ref b155), .val (.int (own_nf1 v0)), .val (.int (0 : Int32)), .val (.int (own_nf1 v0)), .unset] [(.int (0 : Int32))])) _
    refine XS.istore X175.here hx rfl (hb hby d3_48) rfl (l' := #[.val (.ref a), .val (.ref b155), .val (.int (own_nf1 v0)), .val (.int (0 : Int32)), .val (.int (own_nf1 v0)), .val (.int (0 : Int32))]) rfl ?_
    show Steps p.tables e below (T175.setTop (mkF m 50 #[.val (.ref a), .val (.ref b155), .val (.int (own_nf1 v0)), .val (.int (0 : Int32)), .val (.int (own_nf1 v0)), .val (.int (0 : Int32))] [])) _
    refine XS.iload X175.here hx rfl (hb hby d3_50) rfl ?_
    show Steps p.tables e below (T175.setTop (mkF m 52 #[.val (.ref a), .val (.ref b155), .val (.int (own_nf1 v0)), .val (.int (0 : Int32)), .val (.int (own_nf1 v0)), .val (.int (0 : Int32))] [(.int (0 : Int32))])) _
    refine XS.aloadN X175.here hx rfl (hb hby d3_52) rfl rfl ?_
    show Steps p.tables e below (T175.setTop (mkF m 53 #[.val (.ref a), .val (.ref b155), .val (.int (own_nf1 v0)), .val (.int (0 : Int32)), .val (.int (own_nf1 v0)), .val (.int (0 : Int32))] [(.ref a), (.int (0 : Int32))])) _
    exact kq)
  obtain ⟨T178, X178, e178, st178⟩ := getF X175 hx hZ hown (host := "") (Or.inl (hw _ (List.mem_of_getElem? (i := 28) rfl))) Via.refl e175 f158 (g := (mkF m 53 #[.val (.ref a), .val (.ref b155), .val (.int (own_nf1 v0)), .val (.int (0 : Int32)), .val (.int (own_nf1 v0)), .val (.int (0 : Int32))] [(.ref a), (.int (0 : Int32))])) rfl rfl (hb hby d3_53)
  have G179 : Go p e below A0 (T178.setTop (mkF m 56 #[.val (.ref a), .val (.ref b155), .val (.int (own_nf1 v0)), .val (.int (0 : Int32)), .val (.int (own_nf1 v0)), .val (.int (0 : Int32))] [(.int (1 : Int32)), (.int (0 : Int32))])) := fun tq kq => G177 tq (st178 _ kq)
  have G180 : Go p e below A0 (T178.setTop (mkF m 61 #[.val (.ref a), .val (.ref b155), .val (.int (own_nf1 v0)), .val (.int (0 : Int32)), .val (.int (own_nf1 v0)), .val (.int (0 : Int32))] [(.ref a), (.ref b155)])) := fun tq kq => G179 tq (by
    refine XS.icmpNo X178.here hx rfl (hb hby d3_56) rfl (by decide) ?_
    show Steps p.tables e below (T178.setTop (mkF m 59 #[.val (.ref a), .val (.ref b155), .val (.int (own_nf1 v0)), .val (.int (0 : Int32)), .val (.int (own_nf1 v0)), .val (.int (0 : Int32))] [])) _
    refine XS.aloadN X178.here hx rfl (hb hby d3_59) rfl rfl ?_
    show Steps p.tables e below (T178.setTop (mkF m 60 #[.val (.ref a), .val (.ref b155), .val (.int (own_nf1 v0)), .val (.int (0 : Int32)), .val (.int (own_nf1 v0)), .val (.int (0 : Int32))] [(.ref b155)])) _
    refine XS.aloadN X178.here hx rfl (hb hby d3_60) rfl rfl ?_
    show Steps p.tables e below (T178.setTop (mkF m 61 #[.val (.ref a), .val (.ref b155), .val (.int (own_nf1 v0)), .val (.int (0 : Int32)), .val (.int (own_nf1 v0)), .val (.int (0 : Int32))] [(.ref a), (.ref b155)])) _
    exact kq)
  obtain ⟨T181, X181, e181, st181⟩ := getF X178 hx hZ hown (host := "") (Or.inl (hw _ (List.mem_of_getElem? (i := 19) rfl))) Via.refl e178 f162 (g := (mkF m 61 #[.val (.ref a), .val (.ref b155), .val (.int (own_nf1 v0)), .val (.int (0 : Int32)), .val (.int (own_nf1 v0)), .val (.int (0 : Int32))] [(.ref a), (.ref b155)])) rfl rfl (hb hby d3_61)
  have G182 : Go p e below A0 (T181.setTop (mkF m 64 #[.val (.ref a), .val (.ref b155), .val (.int (own_nf1 v0)), .val (.int (0 : Int32)), .val (.int (own_nf1 v0)), .val (.int (0 : Int32))] [(.ref b), (.ref b155)])) := fun tq kq => G180 tq (st181 _ kq)
  have G183 : Go p e below A0 (T181.setTop (mkF m 66 #[.val (.ref a), .val (.ref b155), .val (.int (own_nf1 v0)), .val (.int (0 : Int32)), .val (.int (own_nf1 v0)), .val (.int (0 : Int32))] [(.int (0 : Int32)), (.ref b), (.ref b155)])) := fun tq kq => G182 tq (by
    refine XS.iload X181.here hx rfl (hb hby d3_64) rfl ?_
    show Steps p.tables e below (T181.setTop (mkF m 66 #[.val (.ref a), .val (.ref b155), .val (.int (own_nf1 v0)), .val (.int (0 : Int32)), .val (.int (own_nf1 v0)), .val (.int (0 : Int32))] [(.int (0 : Int32)), (.ref b), (.ref b155)])) _
    exact kq)
  obtain ⟨cl184, Ar184, q184, S184, M184, H184, Gf184⟩ := id f166
  have hi185 : ¬ ((0 : Int32) < 0 ∨ cl184.slots.size ≤ ((0 : Int32)).toNatClampNeg) := (inb_of S184 ⟨by decide, by decide⟩)
  have G186 : Go p e below A0 (T181.setTop (mkF m 67 #[.val (.ref a), .val (.ref b155), .val (.int (own_nf1 v0)), .val (.int (0 : Int32)), .val (.int (own_nf1 v0)), .val (.int (0 : Int32))] [(.int v0), (.ref b155)])) := fun tq kq => G183 tq (by
    refine X181.baloadBooleans hx (j := (0 : Int32)) (v := (.int v0)) (by rw [e181]; exact Ar184.1) (State.isArrayOf_alike hZ.alike Ar184.2.1) Ar184.2.2 hi185 (H184.at hi185 rfl) (g := (mkF m 66 #[.val (.ref a), .val (.ref b155), .val (.int (own_nf1 v0)), .val (.int (0 : Int32)), .val (.int (own_nf1 v0)), .val (.int (0 : Int32))] [(.int (0 : Int32)), (.ref b), (.ref b155)])) rfl rfl (hb hby d3_66) _ ?_
    show Steps p.tables e below (T181.setTop (mkF m 67 #[.val (.ref a), .val (.ref b155), .val (.int (own_nf1 v0)), .val (.int (0 : Int32)), .val (.int (own_nf1 v0)), .val (.int (0 : Int32))] [(.int v0), (.ref b155)])) _
    exact kq)
  obtain ⟨x0, y0, z0, hG187, G187⟩ : ∃ (x0 : Int32) (y0 : Int32) (z0 : Int32), (x0 = (own_ix1_0 v0) ∧ y0 = (own_nf1 v0) ∧ z0 = (own_nt1_1 v0)) ∧ Go p e below A0 (T181.setTop (mkF m 82 #[.val (.ref a), .val (.ref b155), .val (.int (own_nf1 v0)), .val (.int y0), .val (.int z0), .val (.int (0 : Int32))] [(.int x0), (.ref b155)])) := by
    by_cases hc188 : v0 = (0 : Int32)
    · have G189 : Go p e below A0 (T181.setTop (mkF m 82 #[.val (.ref a), .val (.ref b155), .val (.int (own_nf1 v0)), .val (.int (1 : Int32)), .val (.int (own_nf1 v0)), .val (.int (0 : Int32))] [(.int (0 : Int32)), (.ref b155)])) := fun tq kq => G186 tq (by
        refine XS.ifYes X181.here hx rfl (pc0 := 67) (pc' := 78) rfl (hb hby d3_67) rfl ((if0 _ _).trans (teq hc188).1) (by decide) (by decide) ?_
        show Steps p.tables e below (T181.setTop (mkF m 78 #[.val (.ref a), .val (.ref b155), .val (.int (own_nf1 v0)), .val (.int (0 : Int32)), .val (.int (own_nf1 v0)), .val (.int (0 : Int32))] [(.ref b155)])) _
        refine XS.iloadN X181.here hx rfl (hb hby d3_78) rfl ?_
        show Steps p.tables e below (T181.setTop (mkF m 79 #[.val (.ref a), .val (.ref b155), .val (.int (own_nf1 v0)), .val (.int (0 : Int32)), .val (.int (own_nf1 v0)), .val (.int (0 : Int32))] [(.int (0 : Int32)), (.ref b155)])) _
        refine XS.iinc X181.here hx rfl (hb hby d3_79) rfl (l' := #[.val (.ref a), .val (.ref b155), .val (.int (own_nf1 v0)), .val (.int ((0 : Int32) + (1 : Int32))), .val (.int (own_nf1 v0)), .val (.int (0 : Int32))]) rfl ?_
        show Steps p.tables e below (T181.setTop (mkF m 82 #[.val (.ref a), .val (.ref b155), .val (.int (own_nf1 v0)), .val (.int ((0 : Int32) + (1 : Int32))), .val (.int (own_nf1 v0)), .val (.int (0 : Int32))] [(.int (0 : Int32)), (.ref b155)])) _
        rw [show ((0 : Int32) + (1 : Int32)) = (1 : Int32) from (by decide : ((0 : Int32) + (1 : Int32)) = (1 : Int32))]
        show Steps p.tables e below (T181.setTop (mkF m 82 #[.val (.ref a), .val (.ref b155), .val (.int (own_nf1 v0)), .val (.int (1 : Int32)), .val (.int (own_nf1 v0)), .val (.int (0 : Int32))] [(.int (0 : Int32)), (.ref b155)])) _
        exact kq)
      exact ⟨(0 : Int32), (1 : Int32), (own_nf1 v0), (by exact ⟨(if_pos hc188).symm, (congrArg (fun q => (0 : Int32) + q) (own_bt hc188)).symm, ((congrArg (fun q => (own_nf1 v0) + q) (own_b0 (fun q => q hc188))).trans (Int32.add_zero _)).symm⟩), G189⟩
    · have G190 : Go p e below A0 (T181.setTop (mkF m 82 #[.val (.ref a), .val (.ref b155), .val (.int (own_nf1 v0)), .val (.int (0 : Int32)), .val (.int ((own_nf1 v0) + (1 : Int32))), .val (.int (0 : Int32))] [(.int (own_nf1 v0)), (.ref b155)])) := fun tq kq => G186 tq (by
        refine XS.ifNo X181.here hx rfl (hb hby d3_67) rfl ((if0 _ _).trans (feq hc188).1) ?_
        show Steps p.tables e below (T181.setTop (mkF m 70 #[.val (.ref a), .val (.ref b155), .val (.int (own_nf1 v0)), .val (.int (0 : Int32)), .val (.int (own_nf1 v0)), .val (.int (0 : Int32))] [(.ref b155)])) _
        refine XS.iload X181.here hx rfl (hb hby d3_70) rfl ?_
        show Steps p.tables e below (T181.setTop (mkF m 72 #[.val (.ref a), .val (.ref b155), .val (.int (own_nf1 v0)), .val (.int (0 : Int32)), .val (.int (own_nf1 v0)), .val (.int (0 : Int32))] [(.int (own_nf1 v0)), (.ref b155)])) _
        refine XS.iinc X181.here hx rfl (hb hby d3_72) rfl (l' := #[.val (.ref a), .val (.ref b155), .val (.int (own_nf1 v0)), .val (.int (0 : Int32)), .val (.int ((own_nf1 v0) + (1 : Int32))), .val (.int (0 : Int32))]) rfl ?_
        show Steps p.tables e below (T181.setTop (mkF m 75 #[.val (.ref a), .val (.ref b155), .val (.int (own_nf1 v0)), .val (.int (0 : Int32)), .val (.int ((own_nf1 v0) + (1 : Int32))), .val (.int (0 : Int32))] [(.int (own_nf1 v0)), (.ref b155)])) _
        refine XS.goto X181.here hx rfl (pc0 := 75) (pc' := 82) rfl (hb hby d3_75) (by decide) (by decide) ?_
        show Steps p.tables e below (T181.setTop (mkF m 82 #[.val (.ref a), .val (.ref b155), .val (.int (own_nf1 v0)), .val (.int (0 : Int32)), .val (.int ((own_nf1 v0) + (1 : Int32))), .val (.int (0 : Int32))] [(.int (own_nf1 v0)), (.ref b155)])) _
        exact kq)
      exact ⟨(own_nf1 v0), (0 : Int32), ((own_nf1 v0) + (1 : Int32)), (by exact ⟨(if_neg hc188).symm, ((congrArg (fun q => (0 : Int32) + q) (own_b0 hc188)).trans (Int32.add_zero _)).symm, (congrArg (fun q => (own_nf1 v0) + q) (own_bt hc188)).symm⟩), G190⟩
  obtain ⟨rfl, rfl, rfl⟩ := hG187
  have G191 : Go p e below A0 (T181.setTop (mkF m 84 #[.val (.ref a), .val (.ref b155), .val (.int (own_nf1 v0)), .val (.int (own_nf1 v0)), .val (.int (own_nt1_1 v0)), .val (.int (0 : Int32))] [(.int (0 : Int32)), (.int (own_ix1_0 v0)), (.ref b155)])) := fun tq kq => G187 tq (by
    refine XS.iload X181.here hx rfl (hb hby d3_82) rfl ?_
    show Steps p.tables e below (T181.setTop (mkF m 84 #[.val (.ref a), .val (.ref b155), .val (.int (own_nf1 v0)), .val (.int (own_nf1 v0)), .val (.int (own_nt1_1 v0)), .val (.int (0 : Int32))] [(.int (0 : Int32)), (.int (own_ix1_0 v0)), (.ref b155)])) _
    exact kq)
  obtain ⟨cl192, Ar192, q192, S192, M192, H192⟩ := id Af0
  have hi193 : ¬ ((own_ix1_0 v0) < 0 ∨ cl192.slots.size ≤ ((own_ix1_0 v0)).toNatClampNeg) := (inb_of S192 (own_idx_1_0 v0 hb0))
  obtain ⟨T194, h194, X194, e194, W194, st194⟩ := stI X181 hx hZ e181 Ar192 (j := (own_ix1_0 v0)) hi193 (g := (mkF m 84 #[.val (.ref a), .val (.ref b155), .val (.int (own_nf1 v0)), .val (.int (own_nf1 v0)), .val (.int (own_nt1_1 v0)), .val (.int (0 : Int32))] [(.int (0 : Int32)), (.int (own_ix1_0 v0)), (.ref b155)])) rfl rfl (hb hby d3_84)
  have N194 := Fr.snoc X194 N0 g_b155
  have V194 : Af Z h194 b155 k155 .int (1 : Int32) (fun i => if i = ((own_ix1_0 v0)).toNatClampNeg then (.int (0 : Int32)) else ((own_g1_0 v0)) i) := Af.set Ar192 q192 S192 M192 H192 W194 hi193
  have V194' : Af Z h194 b155 k155 .int (1 : Int32) (own_g1_1 v0) := V194.fn (fun _ _ => rfl)
  have G195 : Go p e below A0 (T194.setTop (mkF m 85 #[.val (.ref a), .val (.ref b155), .val (.int (own_nf1 v0)), .val (.int (own_nf1 v0)), .val (.int (own_nt1_1 v0)), .val (.int (0 : Int32))] [])) := fun tq kq => G191 tq (st194 _ kq)
  have G196 : Go p e below A0 (T194.setTop (mkF m 53 #[.val (.ref a), .val (.ref b155), .val (.int (own_nf1 v0)), .val (.int (own_nf1 v0)), .val (.int (own_nt1_1 v0)), .val (.int (1 : Int32))] [(.ref a), (.int (1 : Int32))])) := fun tq kq => G195 tq (by
    refine XS.iinc X194.here hx rfl (hb hby d3_85) rfl (l' := #[.val (.ref a), .val (.ref b155), .val (.int (own_nf1 v0)), .val (.int (own_nf1 v0)), .val (.int (own_nt1_1 v0)), .val (.int ((0 : Int32) + (1 : Int32)))]) rfl ?_
    show Steps p.tables e below (T194.setTop (mkF m 88 #[.val (.ref a), .val (.ref b155), .val (.int (own_nf1 v0)), .val (.int (own_nf1 v0)), .val (.int (own_nt1_1 v0)), .val (.int ((0 : Int32) + (1 : Int32)))] [])) _
    rw [show ((0 : Int32) + (1 : Int32)) = (1 : Int32) from (by decide : ((0 : Int32) + (1 : Int32)) = (1 : Int32))]
    show Steps p.tables e below (T194.setTop (mkF m 88 #[.val (.ref a), .val (.ref b155), .val (.int (own_nf1 v0)), .val (.int (own_nf1 v0)), .val (.int (own_nt1_1 v0)), .val (.int (1 : Int32))] [])) _
    refine XS.goto X194.here hx rfl (pc0 := 88) (pc' := 50) rfl (hb hby d3_88) (by decide) (by decide) ?_
    show Steps p.tables e below (T194.setTop (mkF m 50 #[.val (.ref a), .val (.ref b155), .val (.int (own_nf1 v0)), .val (.int (own_nf1 v0)), .val (.int (own_nt1_1 v0)), .val (.int (1 : Int32))] [])) _
    refine XS.iload X194.here hx rfl (hb hby d3_50) rfl ?_
    show Steps p.tables e below (T194.setTop (mkF m 52 #[.val (.ref a), .val (.ref b155), .val (.int (own_nf1 v0)), .val (.int (own_nf1 v0)), .val (.int (own_nt1_1 v0)), .val (.int (1 : Int32))] [(.int (1 : Int32))])) _
    refine XS.aloadN X194.here hx rfl (hb hby d3_52) rfl rfl ?_
    show Steps p.tables e below (T194.setTop (mkF m 53 #[.val (.ref a), .val (.ref b155), .val (.int (own_nf1 v0)), .val (.int (own_nf1 v0)), .val (.int (own_nt1_1 v0)), .val (.int (1 : Int32))] [(.ref a), (.int (1 : Int32))])) _
    exact kq)
  have f197 := (f158.other W194 (Or.inl ne_a_b155))
  obtain ⟨T198, X198, e198, st198⟩ := getF X194 hx hZ hown (host := "") (Or.inl (hw _ (List.mem_of_getElem? (i := 28) rfl))) Via.refl e194 f197 (g := (mkF m 53 #[.val (.ref a), .val (.ref b155), .val (.int (own_nf1 v0)), .val (.int (own_nf1 v0)), .val (.int (own_nt1_1 v0)), .val (.int (1 : Int32))] [(.ref a), (.int (1 : Int32))])) rfl rfl (hb hby d3_53)
  have G199 : Go p e below A0 (T198.setTop (mkF m 56 #[.val (.ref a), .val (.ref b155), .val (.int (own_nf1 v0)), .val (.int (own_nf1 v0)), .val (.int (own_nt1_1 v0)), .val (.int (1 : Int32))] [(.int (1 : Int32)), (.int (1 : Int32))])) := fun tq kq => G196 tq (st198 _ kq)
  have G200 : Go p e below A0 (T198.setTop (mkF m 92 #[.val (.ref a), .val (.ref b155), .val (.int (own_nf1 v0)), .val (.int (own_nf1 v0)), .val (.int (own_nt1_1 v0)), .val (.int (1 : Int32))] [(.ref b155)])) := fun tq kq => G199 tq (by
    refine XS.icmpYes X198.here hx rfl (pc0 := 56) (pc' := 91) rfl (hb hby d3_56) rfl (by decide) (by decide) (by decide) ?_
    show Steps p.tables e below (T198.setTop (mkF m 91 #[.val (.ref a), .val (.ref b155), .val (.int (own_nf1 v0)), .val (.int (own_nf1 v0)), .val (.int (own_nt1_1 v0)), .val (.int (1 : Int32))] [])) _
    refine XS.aloadN X198.here hx rfl (hb hby d3_91) rfl rfl ?_
    show Steps p.tables e below (T198.setTop (mkF m 92 #[.val (.ref a), .val (.ref b155), .val (.int (own_nf1 v0)), .val (.int (own_nf1 v0)), .val (.int (own_nt1_1 v0)), .val (.int (1 : Int32))] [(.ref b155)])) _
    exact kq)
  obtain ⟨fs, hr, hrun, hended, hW, hsame⟩ := X198.leave (v := some (.ref b155)) (fun h => by rw [Bd.returns] at h; cases h)
  refine ⟨_, _, (by rw [← hA0]; exact G200 _ (retOut X198 hx (t := (.array .int)) Bd.returns rfl (Or.inr (Or.inr (Or.inr (Or.inr ⟨rfl, rfl, rfl⟩)))) (hb hby d3_92) hr)), hrun, hended, _, _, rfl, ?_, ⟨_, rfl⟩, hW, hsame.mono (by decide) (by decide)⟩
  show Qo1 Z v0 h0 n0 _ T198.heap _
  rw [e198]
  exact ⟨_, _, rfl, N194, (((Keep.refl h0 []).ext E155).wr W194 (Or.inr sz_b155)), V194'⟩
def Qo2 (Z : State) (v0 v1 : Int32) (h0 : Heap) (n0 : Nat) (v : Option Value) (h : Heap) (L : List Loc) : Prop := ∃ r kr, v = some (.ref r) ∧ Fr n0 L ∧ Keep h0 h [] ∧ Af Z h r kr .int (2 : Int32) (own_g2_2 v0 v1)
set_option maxRecDepth 65536 in
set_option maxHeartbeats 40000000 in
theorem rmO2 (l : Launch) (Z : State) (a0 : Array Value) (hw : ∀ d ∈ tables_1, d.before a0 Z = true) (ws : List Jvm.Cond) (a b : Addr) (kb : ClassId) (v0 v1 : Int32) (h0 : Heap) (n0 : Nat) (Z0 : n0 ≤ h0.size) (F1 : Fld Z h0 a "com/example/tube2/tube2/trace/BooleanSignal" "values" "[Z" (.ref b)) (F2 : Fld Z h0 a "com/example/tube2/tube2/trace/BooleanSignal" "size" "I" (.int (2 : Int32))) (A : Arv Z h0 b kb .boolean (1024 : Int32) [(.int v0), (.int v1)] (.int (0 : Int32))) (hb0 : v0 = (0 : Int32) ∨ v0 = (1 : Int32)) (hb1 : v1 = (0 : Int32) ∨ v1 = (1 : Int32)) :
    MetFree l (⟨"com/example/tube2/tube2/trace/BooleanSignal", "order", "()[I"⟩ : MethodName) (head1 (Jvm.Cond.code (⟨"com/example/tube2/tube2/trace/BooleanSignal", "order", "()[I"⟩ : MethodName) prog_91_method_10_code 6 (some (.array .int)) :: ws) ({ frames := 0, cells := 1, slots := 5, locals := 0 } : Room)) (fun aa UU => aa = #[(.ref a)] ∧ Z.Warmed39 UU.vm ∧ UU.heap = h0) (fun _ _ _ _ _ => True) (fun _ UU oo U' => ∃ v L, oo = .returned v ∧ Qo2 Z v0 v1 h0 n0 v U'.heap L ∧ FrameEnd UU oo U' L ({ frames := 0, cells := 1, slots := 5, locals := 0 } : Room).cells ({ frames := 0, cells := 1, slots := 5, locals := 0 } : Room).slots) := by
  refine MetFree.of_bodySF (plainFor_of_name pn_0) hisR ?_
  intro p e s m args below meth c s₁ Bd hml0 hP hK
  obtain ⟨rfl, hZ, hh⟩ := hP
  have hx := Bd.exec
  have hby := Bd.bytes
  have hml : c.maxLocals = 6 := hml0
  have hown : s.vm.findClass "com/example/tube2/tube2/trace/BooleanSignal" = some m.cls := findClass_of_methodNamed Bd.named
  have hnm := (name_of_methodNamed Bd.named Bd.method).1
  have X0 : Stand p l e ({ frames := 0, cells := 1, slots := 5, locals := 0 } : Room) s m #[(.ref a)] below meth c s₁ [] 0 0 := Stand.of_body Bd
  have e0 : s₁.heap = h0 := by rw [← hh, Bd.state]; rfl
  have N0 := Fr.nil n0
  obtain ⟨A0, hA0⟩ : ∃ A, A = s₁.setTop (entryFrame m #[(.ref a)] 6) := ⟨_, rfl⟩
  have G0 : Go p e below A0 (s₁.setTop (mkF m 0 #[.val (.ref a), .unset, .unset, .unset, .unset, .unset] [])) := fun tq kq => by rw [hA0]; exact castTop (ef_rmO2 m a) kq
  have G201 : Go p e below A0 (s₁.setTop (mkF m 1 #[.val (.ref a), .unset, .unset, .unset, .unset, .unset] [(.ref a)])) := fun tq kq => G0 tq (by
    refine XS.aloadN X0.here hx rfl (hb hby d3_0) rfl rfl ?_
    show Steps p.tables e below (s₁.setTop (mkF m 1 #[.val (.ref a), .unset, .unset, .unset, .unset, .unset] [(.ref a)])) _
    exact kq)
  obtain ⟨T202, X202, e202, st202⟩ := getF X0 hx hZ hown (host := "") (Or.inl (hw _ (List.mem_of_getElem? (i := 28) rfl))) Via.refl e0 F2 (g := (mkF m 1 #[.val (.ref a), .unset, .unset, .unset, .unset, .unset] [(.ref a)])) rfl rfl (hb hby d3_1)
  have G203 : Go p e below A0 (T202.setTop (mkF m 4 #[.val (.ref a), .unset, .unset, .unset, .unset, .unset] [(.int (2 : Int32))])) := fun tq kq => G201 tq (st202 _ kq)
  obtain ⟨T204, h204, k204, X204, e204, E204, A204, st204⟩ := newP X202 hx hZ (hw _ (List.mem_of_getElem? (i := 30) rfl)) e202 (g := (mkF m 4 #[.val (.ref a), .unset, .unset, .unset, .unset, .unset] [(.int (2 : Int32))])) rfl (hb hby d3_4) rfl (by decide) (cap := 2) (by decide) (by decide) (by decide) (by decide)
  obtain ⟨b204, g204⟩ : ∃ z, z = h0.size := ⟨_, rfl⟩
  rw [← g204] at A204 st204
  have sz_b204 : h0.size ≤ b204 := Nat.le_trans (Nat.le_refl h0.size) (Nat.le_of_eq g204.symm)
  have g_b204 : n0 ≤ b204 := Nat.le_trans Z0 (Nat.le_of_eq g204.symm)
  have ne_a_b204 : a ≠ b204 := Nat.ne_of_lt (Nat.lt_of_lt_of_le F1.lt (Nat.le_of_eq g204.symm))
  have ne_b_b204 : b ≠ b204 := Nat.ne_of_lt (Nat.lt_of_lt_of_le A.lt (Nat.le_of_eq g204.symm))
  have V204 : Arv Z h204 b204 k204 .int (2 : Int32) [(.int (0 : Int32)), (.int (0 : Int32))] (.int (0 : Int32)) := (Arv.new A204 (by decide)).pad (pad_rep [] (.int (0 : Int32)) 2)
  have G205 : Go p e below A0 (T204.setTop (mkF m 6 #[.val (.ref a), .unset, .unset, .unset, .unset, .unset] [(.ref b204)])) := fun tq kq => G203 tq (st204 _ kq)
  have Af0 : Af Z h204 b204 k204 .int (2 : Int32) (own_g2_0 v0 v1) := Af.of V204
  have G206 : Go p e below A0 (T204.setTop (mkF m 13 #[.val (.ref a), .val (.ref b204), .val (.int (0 : Int32)), .val (.int (0 : Int32)), .unset, .unset] [(.ref a), (.int (0 : Int32))])) := fun tq kq => G205 tq (by
    refine XS.astoreN X204.here hx rfl (hb hby d3_6) rfl rfl (l' := #[.val (.ref a), .val (.ref b204), .unset, .unset, .unset, .unset]) rfl ?_
    show Steps p.tables e below (T204.setTop (mkF m 7 #[.val (.ref a), .val (.ref b204), .unset, .unset, .unset, .unset] [])) _
    refine XS.iconst X204.here hx rfl (hb hby d3_7) ?_
    show Steps p.tables e below (T204.setTop (mkF m 8 #[.val (.ref a), .val (.ref b204), .unset, .unset, .unset, .unset] [(.int (0 : Int32))])) _
    refine XS.istoreN X204.here hx rfl (hb hby d3_8) rfl (l' := #[.val (.ref a), .val (.ref b204), .val (.int (0 : Int32)), .unset, .unset, .unset]) rfl ?_
    show Steps p.tables e below (T204.setTop (mkF m 9 #[.val (.ref a), .val (.ref b204), .val (.int (0 : Int32)), .unset, .unset, .unset] [])) _
    refine XS.iconst X204.here hx rfl (hb hby d3_9) ?_
    show Steps p.tables e below (T204.setTop (mkF m 10 #[.val (.ref a), .val (.ref b204), .val (.int (0 : Int32)), .unset, .unset, .unset] [(.int (0 : Int32))])) _
    refine XS.istoreN X204.here hx rfl (hb hby d3_10) rfl (l' := #[.val (.ref a), .val (.ref b204), .val (.int (0 : Int32)), .val (.int (0 : Int32)), .unset, .unset]) rfl ?_
    show Steps p.tables e below (T204.setTop (mkF m 11 #[.val (.ref a), .val (.ref b204), .val (.int (0 : Int32)), .val (.int (0 : Int32)), .unset, .unset] [])) _
    refine XS.iloadN X204.here hx rfl (hb hby d3_11) rfl ?_
    show Steps p.tables e below (T204.setTop (mkF m 12 #[.val (.ref a), .val (.ref b204), .val (.int (0 : Int32)), .val (.int (0 : Int32)), .unset, .unset] [(.int (0 : Int32))])) _
    refine XS.aloadN X204.here hx rfl (hb hby d3_12) rfl rfl ?_
    show Steps p.tables e below (T204.setTop (mkF m 13 #[.val (.ref a), .val (.ref b204), .val (.int (0 : Int32)), .val (.int (0 : Int32)), .unset, .unset] [(.ref a), (.int (0 : Int32))])) _
    exact kq)
  have f207 := (F2.ext E204)
  obtain ⟨T208, X208, e208, st208⟩ := getF X204 hx hZ hown (host := "") (Or.inl (hw _ (List.mem_of_getElem? (i := 28) rfl))) Via.refl e204 f207 (g := (mkF m 13 #[.val (.ref a), .val (.ref b204), .val (.int (0 : Int32)), .val (.int (0 : Int32)), .unset, .unset] [(.ref a), (.int (0 : Int32))])) rfl rfl (hb hby d3_13)
  have G209 : Go p e below A0 (T208.setTop (mkF m 16 #[.val (.ref a), .val (.ref b204), .val (.int (0 : Int32)), .val (.int (0 : Int32)), .unset, .unset] [(.int (2 : Int32)), (.int (0 : Int32))])) := fun tq kq => G206 tq (st208 _ kq)
  have G210 : Go p e below A0 (T208.setTop (mkF m 21 #[.val (.ref a), .val (.ref b204), .val (.int (0 : Int32)), .val (.int (0 : Int32)), .unset, .unset] [(.ref a), (.int (0 : Int32))])) := fun tq kq => G209 tq (by
    refine XS.icmpNo X208.here hx rfl (hb hby d3_16) rfl (by decide) ?_
    show Steps p.tables e below (T208.setTop (mkF m 19 #[.val (.ref a), .val (.ref b204), .val (.int (0 : Int32)), .val (.int (0 : Int32)), .unset, .unset] [])) _
    refine XS.iloadN X208.here hx rfl (hb hby d3_19) rfl ?_
    show Steps p.tables e below (T208.setTop (mkF m 20 #[.val (.ref a), .val (.ref b204), .val (.int (0 : Int32)), .val (.int (0 : Int32)), .unset, .unset] [(.int (0 : Int32))])) _
    refine XS.aloadN X208.here hx rfl (hb hby d3_20) rfl rfl ?_
    show Steps p.tables e below (T208.setTop (mkF m 21 #[.val (.ref a), .val (.ref b204), .val (.int (0 : Int32)), .val (.int (0 : Int32)), .unset, .unset] [(.ref a), (.int (0 : Int32))])) _
    exact kq)
  have f211 := (F1.ext E204)
  obtain ⟨T212, X212, e212, st212⟩ := getF X208 hx hZ hown (host := "") (Or.inl (hw _ (List.mem_of_getElem? (i := 19) rfl))) Via.refl e208 f211 (g := (mkF m 21 #[.val (.ref a), .val (.ref b204), .val (.int (0 : Int32)), .val (.int (0 : Int32)), .unset, .unset] [(.ref a), (.int (0 : Int32))])) rfl rfl (hb hby d3_21)
  have G213 : Go p e below A0 (T212.setTop (mkF m 24 #[.val (.ref a), .val (.ref b204), .val (.int (0 : Int32)), .val (.int (0 : Int32)), .unset, .unset] [(.ref b), (.int (0 : Int32))])) := fun tq kq => G210 tq (st212 _ kq)
  have G214 : Go p e below A0 (T212.setTop (mkF m 25 #[.val (.ref a), .val (.ref b204), .val (.int (0 : Int32)), .val (.int (0 : Int32)), .unset, .unset] [(.int (0 : Int32)), (.ref b), (.int (0 : Int32))])) := fun tq kq => G213 tq (by
    refine XS.iloadN X212.here hx rfl (hb hby d3_24) rfl ?_
    show Steps p.tables e below (T212.setTop (mkF m 25 #[.val (.ref a), .val (.ref b204), .val (.int (0 : Int32)), .val (.int (0 : Int32)), .unset, .unset] [(.int (0 : Int32)), (.ref b), (.int (0 : Int32))])) _
    exact kq)
  have f215 := (A.ext E204)
  obtain ⟨cl216, Ar216, q216, S216, M216, H216, Gf216⟩ := id f215
  have hi217 : ¬ ((0 : Int32) < 0 ∨ cl216.slots.size ≤ ((0 : Int32)).toNatClampNeg) := (inb_of S216 ⟨by decide, by decide⟩)
  have G218 : Go p e below A0 (T212.setTop (mkF m 26 #[.val (.ref a), .val (.ref b204), .val (.int (0 : Int32)), .val (.int (0 : Int32)), .unset, .unset] [(.int v0), (.int (0 : Int32))])) := fun tq kq => G214 tq (by
    refine X212.baloadBooleans hx (j := (0 : Int32)) (v := (.int v0)) (by rw [e212]; exact Ar216.1) (State.isArrayOf_alike hZ.alike Ar216.2.1) Ar216.2.2 hi217 (H216.at hi217 rfl) (g := (mkF m 25 #[.val (.ref a), .val (.ref b204), .val (.int (0 : Int32)), .val (.int (0 : Int32)), .unset, .unset] [(.int (0 : Int32)), (.ref b), (.int (0 : Int32))])) rfl rfl (hb hby d3_25) _ ?_
    show Steps p.tables e below (T212.setTop (mkF m 26 #[.val (.ref a), .val (.ref b204), .val (.int (0 : Int32)), .val (.int (0 : Int32)), .unset, .unset] [(.int v0), (.int (0 : Int32))])) _
    exact kq)
  obtain ⟨t0, hG219, G219⟩ : ∃ (t0 : Int32), (t0 = (own_z v0)) ∧ Go p e below A0 (T212.setTop (mkF m 34 #[.val (.ref a), .val (.ref b204), .val (.int (0 : Int32)), .val (.int (0 : Int32)), .unset, .unset] [(.int t0), (.int (0 : Int32))])) := by
    by_cases hc220 : v0 = (0 : Int32)
    · have G221 : Go p e below A0 (T212.setTop (mkF m 34 #[.val (.ref a), .val (.ref b204), .val (.int (0 : Int32)), .val (.int (0 : Int32)), .unset, .unset] [(.int (1 : Int32)), (.int (0 : Int32))])) := fun tq kq => G218 tq (by
        refine XS.ifYes X212.here hx rfl (pc0 := 26) (pc' := 33) rfl (hb hby d3_26) rfl ((if0 _ _).trans (teq hc220).1) (by decide) (by decide) ?_
        show Steps p.tables e below (T212.setTop (mkF m 33 #[.val (.ref a), .val (.ref b204), .val (.int (0 : Int32)), .val (.int (0 : Int32)), .unset, .unset] [(.int (0 : Int32))])) _
        refine XS.iconst X212.here hx rfl (hb hby d3_33) ?_
        show Steps p.tables e below (T212.setTop (mkF m 34 #[.val (.ref a), .val (.ref b204), .val (.int (0 : Int32)), .val (.int (0 : Int32)), .unset, .unset] [(.int (1 : Int32)), (.int (0 : Int32))])) _
        exact kq)
      exact ⟨(1 : Int32), (by simp [own_z, own_b, hc220]), G221⟩
    · have G222 : Go p e below A0 (T212.setTop (mkF m 34 #[.val (.ref a), .val (.ref b204), .val (.int (0 : Int32)), .val (.int (0 : Int32)), .unset, .unset] [(.int (0 : Int32)), (.int (0 : Int32))])) := fun tq kq => G218 tq (by
        refine XS.ifNo X212.here hx rfl (hb hby d3_26) rfl ((if0 _ _).trans (feq hc220).1) ?_
        show Steps p.tables e below (T212.setTop (mkF m 29 #[.val (.ref a), .val (.ref b204), .val (.int (0 : Int32)), .val (.int (0 : Int32)), .unset, .unset] [(.int (0 : Int32))])) _
        refine XS.iconst X212.here hx rfl (hb hby d3_29) ?_
        show Steps p.tables e below (T212.setTop (mkF m 30 #[.val (.ref a), .val (.ref b204), .val (.int (0 : Int32)), .val (.int (0 : Int32)), .unset, .unset] [(.int (0 : Int32)), (.int (0 : Int32))])) _
        refine XS.goto X212.here hx rfl (pc0 := 30) (pc' := 34) rfl (hb hby d3_30) (by decide) (by decide) ?_
        show Steps p.tables e below (T212.setTop (mkF m 34 #[.val (.ref a), .val (.ref b204), .val (.int (0 : Int32)), .val (.int (0 : Int32)), .unset, .unset] [(.int (0 : Int32)), (.int (0 : Int32))])) _
        exact kq)
      exact ⟨(0 : Int32), (by simp [own_z, own_b, hc220]), G222⟩
  subst hG219
  have G223 : Go p e below A0 (T212.setTop (mkF m 13 #[.val (.ref a), .val (.ref b204), .val (.int (own_nf1 v0)), .val (.int (1 : Int32)), .unset, .unset] [(.ref a), (.int (1 : Int32))])) := fun tq kq => G219 tq (by
    refine XS.iadd X212.here hx rfl (hb hby d3_34) rfl ?_
    show Steps p.tables e below (T212.setTop (mkF m 35 #[.val (.ref a), .val (.ref b204), .val (.int (0 : Int32)), .val (.int (0 : Int32)), .unset, .unset] [(.int ((0 : Int32) + (own_z v0)))])) _
    rw [show ((0 : Int32) + (own_z v0)) = (own_nf1 v0) from rfl]
    show Steps p.tables e below (T212.setTop (mkF m 35 #[.val (.ref a), .val (.ref b204), .val (.int (0 : Int32)), .val (.int (0 : Int32)), .unset, .unset] [(.int (own_nf1 v0))])) _
    refine XS.istoreN X212.here hx rfl (hb hby d3_35) rfl (l' := #[.val (.ref a), .val (.ref b204), .val (.int (own_nf1 v0)), .val (.int (0 : Int32)), .unset, .unset]) rfl ?_
    show Steps p.tables e below (T212.setTop (mkF m 36 #[.val (.ref a), .val (.ref b204), .val (.int (own_nf1 v0)), .val (.int (0 : Int32)), .unset, .unset] [])) _
    refine XS.iinc X212.here hx rfl (hb hby d3_36) rfl (l' := #[.val (.ref a), .val (.ref b204), .val (.int (own_nf1 v0)), .val (.int ((0 : Int32) + (1 : Int32))), .unset, .unset]) rfl ?_
    show Steps p.tables e below (T212.setTop (mkF m 39 #[.val (.ref a), .val (.ref b204), .val (.int (own_nf1 v0)), .val (.int ((0 : Int32) + (1 : Int32))), .unset, .unset] [])) _
    rw [show ((0 : Int32) + (1 : Int32)) = (1 : Int32) from (by decide : ((0 : Int32) + (1 : Int32)) = (1 : Int32))]
    show Steps p.tables e below (T212.setTop (mkF m 39 #[.val (.ref a), .val (.ref b204), .val (.int (own_nf1 v0)), .val (.int (1 : Int32)), .unset, .unset] [])) _
    refine XS.goto X212.here hx rfl (pc0 := 39) (pc' := 11) rfl (hb hby d3_39) (by decide) (by decide) ?_
    show Steps p.tables e below (T212.setTop (mkF m 11 #[.val (.ref a), .val (.ref b204), .val (.int (own_nf1 v0)), .val (.int (1 : Int32)), .unset, .unset] [])) _
    refine XS.iloadN X212.here hx rfl (hb hby d3_11) rfl ?_
    show Steps p.tables e below (T212.setTop (mkF m 12 #[.val (.ref a), .val (.ref b204), .val (.int (own_nf1 v0)), .val (.int (1 : Int32)), .unset, .unset] [(.int (1 : Int32))])) _
    refine XS.aloadN X212.here hx rfl (hb hby d3_12) rfl rfl ?_
    show Steps p.tables e below (T212.setTop (mkF m 13 #[.val (.ref a), .val (.ref b204), .val (.int (own_nf1 v0)), .val (.int (1 : Int32)), .unset, .unset] [(.ref a), (.int (1 : Int32))])) _
    exact kq)
  obtain ⟨T224, X224, e224, st224⟩ := getF X212 hx hZ hown (host := "") (Or.inl (hw _ (List.mem_of_getElem? (i := 28) rfl))) Via.refl e212 f207 (g := (mkF m 13 #[.val (.ref a), .val (.ref b204), .val (.int (own_nf1 v0)), .val (.int (1 : Int32)), .unset, .unset] [(.ref a), (.int (1 : Int32))])) rfl rfl (hb hby d3_13)
  have G225 : Go p e below A0 (T224.setTop (mkF m 16 #[.val (.ref a), .val (.ref b204), .val (.int (own_nf1 v0)), .val (.int (1 : Int32)), .unset, .unset] [(.int (2 : Int32)), (.int (1 : Int32))])) := fun tq kq => G223 tq (st224 _ kq)
  have G226 : Go p e below A0 (T224.setTop (mkF m 21 #[.val (.ref a), .val (.ref b204), .val (.int (own_nf1 v0)), .val (.int (1 : Int32)), .unset, .unset] [(.ref a), (.int (own_nf1 v0))])) := fun tq kq => G225 tq (by
    refine XS.icmpNo X224.here hx rfl (hb hby d3_16) rfl (by decide) ?_
    show Steps p.tables e below (T224.setTop (mkF m 19 #[.val (.ref a), .val (.ref b204), .val (.int (own_nf1 v0)), .val (.int (1 : Int32)), .unset, .unset] [])) _
    refine XS.iloadN X224.here hx rfl (hb hby d3_19) rfl ?_
    show Steps p.tables e below (T224.setTop (mkF m 20 #[.val (.ref a), .val (.ref b204), .val (.int (own_nf1 v0)), .val (.int (1 : Int32)), .unset, .unset] [(.int (own_nf1 v0))])) _
    refine XS.aloadN X224.here hx rfl (hb hby d3_20) rfl rfl ?_
    show Steps p.tables e below (T224.setTop (mkF m 21 #[.val (.ref a), .val (.ref b204), .val (.int (own_nf1 v0)), .val (.int (1 : Int32)), .unset, .unset] [(.ref a), (.int (own_nf1 v0))])) _
    exact kq)
  obtain ⟨T227, X227, e227, st227⟩ := getF X224 hx hZ hown (host := "") (Or.inl (hw _ (List.mem_of_getElem? (i := 19) rfl))) Via.refl e224 f211 (g := (mkF m 21 #[.val (.ref a), .val (.ref b204), .val (.int (own_nf1 v0)), .val (.int (1 : Int32)), .unset, .unset] [(.ref a), (.int (own_nf1 v0))])) rfl rfl (hb hby d3_21)
  have G228 : Go p e below A0 (T227.setTop (mkF m 24 #[.val (.ref a), .val (.ref b204), .val (.int (own_nf1 v0)), .val (.int (1 : Int32)), .unset, .unset] [(.ref b), (.int (own_nf1 v0))])) := fun tq kq => G226 tq (st227 _ kq)
  have G229 : Go p e below A0 (T227.setTop (mkF m 25 #[.val (.ref a), .val (.ref b204), .val (.int (own_nf1 v0)), .val (.int (1 : Int32)), .unset, .unset] [(.int (1 : Int32)), (.ref b), (.int (own_nf1 v0))])) := fun tq kq => G228 tq (by
    refine XS.iloadN X227.here hx rfl (hb hby d3_24) rfl ?_
    show Steps p.tables e below (T227.setTop (mkF m 25 #[.val (.ref a), .val (.ref b204), .val (.int (own_nf1 v0)), .val (.int (1 : Int32)), .unset, .unset] [(.int (1 : Int32)), (.ref b), (.int (own_nf1 v0))])) _
    exact kq)
  obtain ⟨cl230, Ar230, q230, S230, M230, H230, Gf230⟩ := id f215
  have hi231 : ¬ ((1 : Int32) < 0 ∨ cl230.slots.size ≤ ((1 : Int32)).toNatClampNeg) := (inb_of S230 ⟨by decide, by decide⟩)
  have G232 : Go p e below A0 (T227.setTop (mkF m 26 #[.val (.ref a), .val (.ref b204), .val (.int (own_nf1 v0)), .val (.int (1 : Int32)), .unset, .unset] [(.int v1), (.int (own_nf1 v0))])) := fun tq kq => G229 tq (by
    refine X227.baloadBooleans hx (j := (1 : Int32)) (v := (.int v1)) (by rw [e227]; exact Ar230.1) (State.isArrayOf_alike hZ.alike Ar230.2.1) Ar230.2.2 hi231 (H230.at hi231 rfl) (g := (mkF m 25 #[.val (.ref a), .val (.ref b204), .val (.int (own_nf1 v0)), .val (.int (1 : Int32)), .unset, .unset] [(.int (1 : Int32)), (.ref b), (.int (own_nf1 v0))])) rfl rfl (hb hby d3_25) _ ?_
    show Steps p.tables e below (T227.setTop (mkF m 26 #[.val (.ref a), .val (.ref b204), .val (.int (own_nf1 v0)), .val (.int (1 : Int32)), .unset, .unset] [(.int v1), (.int (own_nf1 v0))])) _
    exact kq)
  obtain ⟨t1, hG233, G233⟩ : ∃ (t1 : Int32), (t1 = (own_z v1)) ∧ Go p e below A0 (T227.setTop (mkF m 34 #[.val (.ref a), .val (.ref b204), .val (.int (own_nf1 v0)), .val (.int (1 : Int32)), .unset, .unset] [(.int t1), (.int (own_nf1 v0))])) := by
    by_cases hc234 : v1 = (0 : Int32)
    · have G235 : Go p e below A0 (T227.setTop (mkF m 34 #[.val (.ref a), .val (.ref b204), .val (.int (own_nf1 v0)), .val (.int (1 : Int32)), .unset, .unset] [(.int (1 : Int32)), (.int (own_nf1 v0))])) := fun tq kq => G232 tq (by
        refine XS.ifYes X227.here hx rfl (pc0 := 26) (pc' := 33) rfl (hb hby d3_26) rfl ((if0 _ _).trans (teq hc234).1) (by decide) (by decide) ?_
        show Steps p.tables e below (T227.setTop (mkF m 33 #[.val (.ref a), .val (.ref b204), .val (.int (own_nf1 v0)), .val (.int (1 : Int32)), .unset, .unset] [(.int (own_nf1 v0))])) _
        refine XS.iconst X227.here hx rfl (hb hby d3_33) ?_
        show Steps p.tables e below (T227.setTop (mkF m 34 #[.val (.ref a), .val (.ref b204), .val (.int (own_nf1 v0)), .val (.int (1 : Int32)), .unset, .unset] [(.int (1 : Int32)), (.int (own_nf1 v0))])) _
        exact kq)
      exact ⟨(1 : Int32), (by simp [own_z, own_b, hc234]), G235⟩
    · have G236 : Go p e below A0 (T227.setTop (mkF m 34 #[.val (.ref a), .val (.ref b204), .val (.int (own_nf1 v0)), .val (.int (1 : Int32)), .unset, .unset] [(.int (0 : Int32)), (.int (own_nf1 v0))])) := fun tq kq => G232 tq (by
        refine XS.ifNo X227.here hx rfl (hb hby d3_26) rfl ((if0 _ _).trans (feq hc234).1) ?_
        show Steps p.tables e below (T227.setTop (mkF m 29 #[.val (.ref a), .val (.ref b204), .val (.int (own_nf1 v0)), .val (.int (1 : Int32)), .unset, .unset] [(.int (own_nf1 v0))])) _
        refine XS.iconst X227.here hx rfl (hb hby d3_29) ?_
        show Steps p.tables e below (T227.setTop (mkF m 30 #[.val (.ref a), .val (.ref b204), .val (.int (own_nf1 v0)), .val (.int (1 : Int32)), .unset, .unset] [(.int (0 : Int32)), (.int (own_nf1 v0))])) _
        refine XS.goto X227.here hx rfl (pc0 := 30) (pc' := 34) rfl (hb hby d3_30) (by decide) (by decide) ?_
        show Steps p.tables e below (T227.setTop (mkF m 34 #[.val (.ref a), .val (.ref b204), .val (.int (own_nf1 v0)), .val (.int (1 : Int32)), .unset, .unset] [(.int (0 : Int32)), (.int (own_nf1 v0))])) _
        exact kq)
      exact ⟨(0 : Int32), (by simp [own_z, own_b, hc234]), G236⟩
  subst hG233
  have G237 : Go p e below A0 (T227.setTop (mkF m 13 #[.val (.ref a), .val (.ref b204), .val (.int (own_nf2 v0 v1)), .val (.int (2 : Int32)), .unset, .unset] [(.ref a), (.int (2 : Int32))])) := fun tq kq => G233 tq (by
    refine XS.iadd X227.here hx rfl (hb hby d3_34) rfl ?_
    show Steps p.tables e below (T227.setTop (mkF m 35 #[.val (.ref a), .val (.ref b204), .val (.int (own_nf1 v0)), .val (.int (1 : Int32)), .unset, .unset] [(.int ((own_nf1 v0) + (own_z v1)))])) _
    rw [show ((own_nf1 v0) + (own_z v1)) = (own_nf2 v0 v1) from rfl]
    show Steps p.tables e below (T227.setTop (mkF m 35 #[.val (.ref a), .val (.ref b204), .val (.int (own_nf1 v0)), .val (.int (1 : Int32)), .unset, .unset] [(.int (own_nf2 v0 v1))])) _
    refine XS.istoreN X227.here hx rfl (hb hby d3_35) rfl (l' := #[.val (.ref a), .val (.ref b204), .val (.int (own_nf2 v0 v1)), .val (.int (1 : Int32)), .unset, .unset]) rfl ?_
    show Steps p.tables e below (T227.setTop (mkF m 36 #[.val (.ref a), .val (.ref b204), .val (.int (own_nf2 v0 v1)), .val (.int (1 : Int32)), .unset, .unset] [])) _
    refine XS.iinc X227.here hx rfl (hb hby d3_36) rfl (l' := #[.val (.ref a), .val (.ref b204), .val (.int (own_nf2 v0 v1)), .val (.int ((1 : Int32) + (1 : Int32))), .unset, .unset]) rfl ?_
    show Steps p.tables e below (T227.setTop (mkF m 39 #[.val (.ref a), .val (.ref b204), .val (.int (own_nf2 v0 v1)), .val (.int ((1 : Int32) + (1 : Int32))), .unset, .unset] [])) _
    rw [show ((1 : Int32) + (1 : Int32)) = (2 : Int32) from (by decide : ((1 : Int32) + (1 : Int32)) = (2 : Int32))]
    show Steps p.tables e below (T227.setTop (mkF m 39 #[.val (.ref a), .val (.ref b204), .val (.int (own_nf2 v0 v1)), .val (.int (2 : Int32)), .unset, .unset] [])) _
    refine XS.goto X227.here hx rfl (pc0 := 39) (pc' := 11) rfl (hb hby d3_39) (by decide) (by decide) ?_
    show Steps p.tables e below (T227.setTop (mkF m 11 #[.val (.ref a), .val (.ref b204), .val (.int (own_nf2 v0 v1)), .val (.int (2 : Int32)), .unset, .unset] [])) _
    refine XS.iloadN X227.here hx rfl (hb hby d3_11) rfl ?_
    show Steps p.tables e below (T227.setTop (mkF m 12 #[.val (.ref a), .val (.ref b204), .val (.int (own_nf2 v0 v1)), .val (.int (2 : Int32)), .unset, .unset] [(.int (2 : Int32))])) _
    refine XS.aloadN X227.here hx rfl (hb hby d3_12) rfl rfl ?_
    show Steps p.tables e below (T227.setTop (mkF m 13 #[.val (.ref a), .val (.ref b204), .val (.int (own_nf2 v0 v1)), .val (.int (2 : Int32)), .unset, .unset] [(.ref a), (.int (2 : Int32))])) _
    exact kq)
  obtain ⟨T238, X238, e238, st238⟩ := getF X227 hx hZ hown (host := "") (Or.inl (hw _ (List.mem_of_getElem? (i := 28) rfl))) Via.refl e227 f207 (g := (mkF m 13 #[.val (.ref a), .val (.ref b204), .val (.int (own_nf2 v0 v1)), .val (.int (2 : Int32)), .unset, .unset] [(.ref a), (.int (2 : Int32))])) rfl rfl (hb hby d3_13)
  have G239 : Go p e below A0 (T238.setTop (mkF m 16 #[.val (.ref a), .val (.ref b204), .val (.int (own_nf2 v0 v1)), .val (.int (2 : Int32)), .unset, .unset] [(.int (2 : Int32)), (.int (2 : Int32))])) := fun tq kq => G237 tq (st238 _ kq)
  have G240 : Go p e below A0 (T238.setTop (mkF m 53 #[.val (.ref a), .val (.ref b204), .val (.int (own_nf2 v0 v1)), .val (.int (0 : Int32)), .val (.int (own_nf2 v0 v1)), .val (.int (0 : Int32))] [(.ref a), (.int (0 : Int32))])) := fun tq kq => G239 tq (by
    refine XS.icmpYes X238.here hx rfl (pc0 := 16) (pc' := 42) rfl (hb hby d3_16) rfl (by decide) (by decide) (by decide) ?_
    show Steps p.tables e below (T238.setTop (mkF m 42 #[.val (.ref a), .val (.ref b204), .val (.int (own_nf2 v0 v1)), .val (.int (2 : Int32)), .unset, .unset] [])) _
    refine XS.iconst X238.here hx rfl (hb hby d3_42) ?_
    show Steps p.tables e below (T238.setTop (mkF m 43 #[.val (.ref a), .val (.ref b204), .val (.int (own_nf2 v0 v1)), .val (.int (2 : Int32)), .unset, .unset] [(.int (0 : Int32))])) _
    refine XS.istoreN X238.here hx rfl (hb hby d3_43) rfl (l' := #[.val (.ref a), .val (.ref b204), .val (.int (own_nf2 v0 v1)), .val (.int (0 : Int32)), .unset, .unset]) rfl ?_
    show Steps p.tables e below (T238.setTop (mkF m 44 #[.val (.ref a), .val (.ref b204), .val (.int (own_nf2 v0 v1)), .val (.int (0 : Int32)), .unset, .unset] [])) _
    refine XS.iloadN X238.here hx rfl (hb hby d3_44) rfl ?_
    show Steps p.tables e below (T238.setTop (mkF m 45 #[.val (.ref a), .val (.ref b204), .val (.int (own_nf2 v0 v1)), .val (.int (0 : Int32)), .unset, .unset] [(.int (own_nf2 v0 v1))])) _
    refine XS.istore X238.here hx rfl (hb hby d3_45) rfl (l' := #[.val (.ref a), .val (.ref b204), .val (.int (own_nf2 v0 v1)), .val (.int (0 : Int32)), .val (.int (own_nf2 v0 v1)), .unset]) rfl ?_
    show Steps p.tables e below (T238.setTop (mkF m 47 #[.val (.ref a), .val (.ref b204), .val (.int (own_nf2 v0 v1)), .val (.int (0 : Int32)), .val (.int (own_nf2 v0 v1)), .unset] [])) _
    refine XS.iconst X238.here hx rfl (hb hby d3_47) ?_
    show Steps p.tables e below (T238.setTop (mkF m 48 #[.val (.ref a), .val (.ref b204), .val (.int (own_nf2 v0 v1)), .val (.int (0 : Int32)), .val (.int (own_nf2 v0 v1)), .unset] [(.int (0 : Int32))])) _
    refine XS.istore X238.here hx rfl (hb hby d3_48) rfl (l' := #[.val (.ref a), .val (.ref b204), .val (.int (own_nf2 v0 v1)), .val (.int (0 : Int32)), .val (.int (own_nf2 v0 v1)), .val (.int (0 : Int32))]) rfl ?_
    show Steps p.tables e below (T238.setTop (mkF m 50 #[.val (.ref a), .val (.ref b204), .val (.int (own_nf2 v0 v1)), .val (.int (0 : Int32)), .val (.int (own_nf2 v0 v1)), .val (.int (0 : Int32))] [])) _
    refine XS.iload X238.here hx rfl (hb hby d3_50) rfl ?_
    show Steps p.tables e below (T238.setTop (mkF m 52 #[.val (.ref a), .val (.ref b204), .val (.int (own_nf2 v0 v1)), .val (.int (0 : Int32)), .val (.int (own_nf2 v0 v1)), .val (.int (0 : Int32))] [(.int (0 : Int32))])) _
    refine XS.aloadN X238.here hx rfl (hb hby d3_52) rfl rfl ?_
    show Steps p.tables e below (T238.setTop (mkF m 53 #[.val (.ref a), .val (.ref b204), .val (.int (own_nf2 v0 v1)), .val (.int (0 : Int32)), .val (.int (own_nf2 v0 v1)), .val (.int (0 : Int32))] [(.ref a), (.int (0 : Int32))])) _
    exact kq)
  obtain ⟨T241, X241, e241, st241⟩ := getF X238 hx hZ hown (host := "") (Or.inl (hw _ (List.mem_of_getElem? (i := 28) rfl))) Via.refl e238 f207 (g := (mkF m 53 #[.val (.ref a), .val (.ref b204), .val (.int (own_nf2 v0 v1)), .val (.int (0 : Int32)), .val (.int (own_nf2 v0 v1)), .val (.int (0 : Int32))] [(.ref a), (.int (0 : Int32))])) rfl rfl (hb hby d3_53)
  have G242 : Go p e below A0 (T241.setTop (mkF m 56 #[.val (.ref a), .val (.ref b204), .val (.int (own_nf2 v0 v1)), .val (.int (0 : Int32)), .val (.int (own_nf2 v0 v1)), .val (.int (0 : Int32))] [(.int (2 : Int32)), (.int (0 : Int32))])) := fun tq kq => G240 tq (st241 _ kq)
  have G243 : Go p e below A0 (T241.setTop (mkF m 61 #[.val (.ref a), .val (.ref b204), .val (.int (own_nf2 v0 v1)), .val (.int (0 : Int32)), .val (.int (own_nf2 v0 v1)), .val (.int (0 : Int32))] [(.ref a), (.ref b204)])) := fun tq kq => G242 tq (by
    refine XS.icmpNo X241.here hx rfl (hb hby d3_56) rfl (by decide) ?_
    show Steps p.tables e below (T241.setTop (mkF m 59 #[.val (.ref a), .val (.ref b204), .val (.int (own_nf2 v0 v1)), .val (.int (0 : Int32)), .val (.int (own_nf2 v0 v1)), .val (.int (0 : Int32))] [])) _
    refine XS.aloadN X241.here hx rfl (hb hby d3_59) rfl rfl ?_
    show Steps p.tables e below (T241.setTop (mkF m 60 #[.val (.ref a), .val (.ref b204), .val (.int (own_nf2 v0 v1)), .val (.int (0 : Int32)), .val (.int (own_nf2 v0 v1)), .val (.int (0 : Int32))] [(.ref b204)])) _
    refine XS.aloadN X241.here hx rfl (hb hby d3_60) rfl rfl ?_
    show Steps p.tables e below (T241.setTop (mkF m 61 #[.val (.ref a), .val (.ref b204), .val (.int (own_nf2 v0 v1)), .val (.int (0 : Int32)), .val (.int (own_nf2 v0 v1)), .val (.int (0 : Int32))] [(.ref a), (.ref b204)])) _
    exact kq)
  obtain ⟨T244, X244, e244, st244⟩ := getF X241 hx hZ hown (host := "") (Or.inl (hw _ (List.mem_of_getElem? (i := 19) rfl))) Via.refl e241 f211 (g := (mkF m 61 #[.val (.ref a), .val (.ref b204), .val (.int (own_nf2 v0 v1)), .val (.int (0 : Int32)), .val (.int (own_nf2 v0 v1)), .val (.int (0 : Int32))] [(.ref a), (.ref b204)])) rfl rfl (hb hby d3_61)
  have G245 : Go p e below A0 (T244.setTop (mkF m 64 #[.val (.ref a), .val (.ref b204), .val (.int (own_nf2 v0 v1)), .val (.int (0 : Int32)), .val (.int (own_nf2 v0 v1)), .val (.int (0 : Int32))] [(.ref b), (.ref b204)])) := fun tq kq => G243 tq (st244 _ kq)
  have G246 : Go p e below A0 (T244.setTop (mkF m 66 #[.val (.ref a), .val (.ref b204), .val (.int (own_nf2 v0 v1)), .val (.int (0 : Int32)), .val (.int (own_nf2 v0 v1)), .val (.int (0 : Int32))] [(.int (0 : Int32)), (.ref b), (.ref b204)])) := fun tq kq => G245 tq (by
    refine XS.iload X244.here hx rfl (hb hby d3_64) rfl ?_
    show Steps p.tables e below (T244.setTop (mkF m 66 #[.val (.ref a), .val (.ref b204), .val (.int (own_nf2 v0 v1)), .val (.int (0 : Int32)), .val (.int (own_nf2 v0 v1)), .val (.int (0 : Int32))] [(.int (0 : Int32)), (.ref b), (.ref b204)])) _
    exact kq)
  obtain ⟨cl247, Ar247, q247, S247, M247, H247, Gf247⟩ := id f215
  have hi248 : ¬ ((0 : Int32) < 0 ∨ cl247.slots.size ≤ ((0 : Int32)).toNatClampNeg) := (inb_of S247 ⟨by decide, by decide⟩)
  have G249 : Go p e below A0 (T244.setTop (mkF m 67 #[.val (.ref a), .val (.ref b204), .val (.int (own_nf2 v0 v1)), .val (.int (0 : Int32)), .val (.int (own_nf2 v0 v1)), .val (.int (0 : Int32))] [(.int v0), (.ref b204)])) := fun tq kq => G246 tq (by
    refine X244.baloadBooleans hx (j := (0 : Int32)) (v := (.int v0)) (by rw [e244]; exact Ar247.1) (State.isArrayOf_alike hZ.alike Ar247.2.1) Ar247.2.2 hi248 (H247.at hi248 rfl) (g := (mkF m 66 #[.val (.ref a), .val (.ref b204), .val (.int (own_nf2 v0 v1)), .val (.int (0 : Int32)), .val (.int (own_nf2 v0 v1)), .val (.int (0 : Int32))] [(.int (0 : Int32)), (.ref b), (.ref b204)])) rfl rfl (hb hby d3_66) _ ?_
    show Steps p.tables e below (T244.setTop (mkF m 67 #[.val (.ref a), .val (.ref b204), .val (.int (own_nf2 v0 v1)), .val (.int (0 : Int32)), .val (.int (own_nf2 v0 v1)), .val (.int (0 : Int32))] [(.int v0), (.ref b204)])) _
    exact kq)
  obtain ⟨x0, y0, z0, hG250, G250⟩ : ∃ (x0 : Int32) (y0 : Int32) (z0 : Int32), (x0 = (own_ix2_0 v0 v1) ∧ y0 = (own_nf1 v0) ∧ z0 = (own_nt2_1 v0 v1)) ∧ Go p e below A0 (T244.setTop (mkF m 82 #[.val (.ref a), .val (.ref b204), .val (.int (own_nf2 v0 v1)), .val (.int y0), .val (.int z0), .val (.int (0 : Int32))] [(.int x0), (.ref b204)])) := by
    by_cases hc251 : v0 = (0 : Int32)
    · have G252 : Go p e below A0 (T244.setTop (mkF m 82 #[.val (.ref a), .val (.ref b204), .val (.int (own_nf2 v0 v1)), .val (.int (1 : Int32)), .val (.int (own_nf2 v0 v1)), .val (.int (0 : Int32))] [(.int (0 : Int32)), (.ref b204)])) := fun tq kq => G249 tq (by
        refine XS.ifYes X244.here hx rfl (pc0 := 67) (pc' := 78) rfl (hb hby d3_67) rfl ((if0 _ _).trans (teq hc251).1) (by decide) (by decide) ?_
        show Steps p.tables e below (T244.setTop (mkF m 78 #[.val (.ref a), .val (.ref b204), .val (.int (own_nf2 v0 v1)), .val (.int (0 : Int32)), .val (.int (own_nf2 v0 v1)), .val (.int (0 : Int32))] [(.ref b204)])) _
        refine XS.iloadN X244.here hx rfl (hb hby d3_78) rfl ?_
        show Steps p.tables e below (T244.setTop (mkF m 79 #[.val (.ref a), .val (.ref b204), .val (.int (own_nf2 v0 v1)), .val (.int (0 : Int32)), .val (.int (own_nf2 v0 v1)), .val (.int (0 : Int32))] [(.int (0 : Int32)), (.ref b204)])) _
        refine XS.iinc X244.here hx rfl (hb hby d3_79) rfl (l' := #[.val (.ref a), .val (.ref b204), .val (.int (own_nf2 v0 v1)), .val (.int ((0 : Int32) + (1 : Int32))), .val (.int (own_nf2 v0 v1)), .val (.int (0 : Int32))]) rfl ?_
        show Steps p.tables e below (T244.setTop (mkF m 82 #[.val (.ref a), .val (.ref b204), .val (.int (own_nf2 v0 v1)), .val (.int ((0 : Int32) + (1 : Int32))), .val (.int (own_nf2 v0 v1)), .val (.int (0 : Int32))] [(.int (0 : Int32)), (.ref b204)])) _
        rw [show ((0 : Int32) + (1 : Int32)) = (1 : Int32) from (by decide : ((0 : Int32) + (1 : Int32)) = (1 : Int32))]
        show Steps p.tables e below (T244.setTop (mkF m 82 #[.val (.ref a), .val (.ref b204), .val (.int (own_nf2 v0 v1)), .val (.int (1 : Int32)), .val (.int (own_nf2 v0 v1)), .val (.int (0 : Int32))] [(.int (0 : Int32)), (.ref b204)])) _
        exact kq)
      exact ⟨(0 : Int32), (1 : Int32), (own_nf2 v0 v1), (by exact ⟨(if_pos hc251).symm, (congrArg (fun q => (0 : Int32) + q) (own_bt hc251)).symm, ((congrArg (fun q => (own_nf2 v0 v1) + q) (own_b0 (fun q => q hc251))).trans (Int32.add_zero _)).symm⟩), G252⟩
    · have G253 : Go p e below A0 (T244.setTop (mkF m 82 #[.val (.ref a), .val (.ref b204), .val (.int (own_nf2 v0 v1)), .val (.int (0 : Int32)), .val (.int ((own_nf2 v0 v1) + (1 : Int32))), .val (.int (0 : Int32))] [(.int (own_nf2 v0 v1)), (.ref b204)])) := fun tq kq => G249 tq (by
        refine XS.ifNo X244.here hx rfl (hb hby d3_67) rfl ((if0 _ _).trans (feq hc251).1) ?_
        show Steps p.tables e below (T244.setTop (mkF m 70 #[.val (.ref a), .val (.ref b204), .val (.int (own_nf2 v0 v1)), .val (.int (0 : Int32)), .val (.int (own_nf2 v0 v1)), .val (.int (0 : Int32))] [(.ref b204)])) _
        refine XS.iload X244.here hx rfl (hb hby d3_70) rfl ?_
        show Steps p.tables e below (T244.setTop (mkF m 72 #[.val (.ref a), .val (.ref b204), .val (.int (own_nf2 v0 v1)), .val (.int (0 : Int32)), .val (.int (own_nf2 v0 v1)), .val (.int (0 : Int32))] [(.int (own_nf2 v0 v1)), (.ref b204)])) _
        refine XS.iinc X244.here hx rfl (hb hby d3_72) rfl (l' := #[.val (.ref a), .val (.ref b204), .val (.int (own_nf2 v0 v1)), .val (.int (0 : Int32)), .val (.int ((own_nf2 v0 v1) + (1 : Int32))), .val (.int (0 : Int32))]) rfl ?_
        show Steps p.tables e below (T244.setTop (mkF m 75 #[.val (.ref a), .val (.ref b204), .val (.int (own_nf2 v0 v1)), .val (.int (0 : Int32)), .val (.int ((own_nf2 v0 v1) + (1 : Int32))), .val (.int (0 : Int32))] [(.int (own_nf2 v0 v1)), (.ref b204)])) _
        refine XS.goto X244.here hx rfl (pc0 := 75) (pc' := 82) rfl (hb hby d3_75) (by decide) (by decide) ?_
        show Steps p.tables e below (T244.setTop (mkF m 82 #[.val (.ref a), .val (.ref b204), .val (.int (own_nf2 v0 v1)), .val (.int (0 : Int32)), .val (.int ((own_nf2 v0 v1) + (1 : Int32))), .val (.int (0 : Int32))] [(.int (own_nf2 v0 v1)), (.ref b204)])) _
        exact kq)
      exact ⟨(own_nf2 v0 v1), (0 : Int32), ((own_nf2 v0 v1) + (1 : Int32)), (by exact ⟨(if_neg hc251).symm, ((congrArg (fun q => (0 : Int32) + q) (own_b0 hc251)).trans (Int32.add_zero _)).symm, (congrArg (fun q => (own_nf2 v0 v1) + q) (own_bt hc251)).symm⟩), G253⟩
  obtain ⟨rfl, rfl, rfl⟩ := hG250
  have G254 : Go p e below A0 (T244.setTop (mkF m 84 #[.val (.ref a), .val (.ref b204), .val (.int (own_nf2 v0 v1)), .val (.int (own_nf1 v0)), .val (.int (own_nt2_1 v0 v1)), .val (.int (0 : Int32))] [(.int (0 : Int32)), (.int (own_ix2_0 v0 v1)), (.ref b204)])) := fun tq kq => G250 tq (by
    refine XS.iload X244.here hx rfl (hb hby d3_82) rfl ?_
    show Steps p.tables e below (T244.setTop (mkF m 84 #[.val (.ref a), .val (.ref b204), .val (.int (own_nf2 v0 v1)), .val (.int (own_nf1 v0)), .val (.int (own_nt2_1 v0 v1)), .val (.int (0 : Int32))] [(.int (0 : Int32)), (.int (own_ix2_0 v0 v1)), (.ref b204)])) _
    exact kq)
  obtain ⟨cl255, Ar255, q255, S255, M255, H255⟩ := id Af0
  have hi256 : ¬ ((own_ix2_0 v0 v1) < 0 ∨ cl255.slots.size ≤ ((own_ix2_0 v0 v1)).toNatClampNeg) := (inb_of S255 (own_idx_2_0 v0 v1 hb0 hb1))
  obtain ⟨T257, h257, X257, e257, W257, st257⟩ := stI X244 hx hZ e244 Ar255 (j := (own_ix2_0 v0 v1)) hi256 (g := (mkF m 84 #[.val (.ref a), .val (.ref b204), .val (.int (own_nf2 v0 v1)), .val (.int (own_nf1 v0)), .val (.int (own_nt2_1 v0 v1)), .val (.int (0 : Int32))] [(.int (0 : Int32)), (.int (own_ix2_0 v0 v1)), (.ref b204)])) rfl rfl (hb hby d3_84)
  have N257 := Fr.snoc X257 N0 g_b204
  have V257 : Af Z h257 b204 k204 .int (2 : Int32) (fun i => if i = ((own_ix2_0 v0 v1)).toNatClampNeg then (.int (0 : Int32)) else ((own_g2_0 v0 v1)) i) := Af.set Ar255 q255 S255 M255 H255 W257 hi256
  have V257' : Af Z h257 b204 k204 .int (2 : Int32) (own_g2_1 v0 v1) := V257.fn (fun _ _ => rfl)
  have G258 : Go p e below A0 (T257.setTop (mkF m 85 #[.val (.ref a), .val (.ref b204), .val (.int (own_nf2 v0 v1)), .val (.int (own_nf1 v0)), .val (.int (own_nt2_1 v0 v1)), .val (.int (0 : Int32))] [])) := fun tq kq => G254 tq (st257 _ kq)
  have G259 : Go p e below A0 (T257.setTop (mkF m 53 #[.val (.ref a), .val (.ref b204), .val (.int (own_nf2 v0 v1)), .val (.int (own_nf1 v0)), .val (.int (own_nt2_1 v0 v1)), .val (.int (1 : Int32))] [(.ref a), (.int (1 : Int32))])) := fun tq kq => G258 tq (by
    refine XS.iinc X257.here hx rfl (hb hby d3_85) rfl (l' := #[.val (.ref a), .val (.ref b204), .val (.int (own_nf2 v0 v1)), .val (.int (own_nf1 v0)), .val (.int (own_nt2_1 v0 v1)), .val (.int ((0 : Int32) + (1 : Int32)))]) rfl ?_
    show Steps p.tables e below (T257.setTop (mkF m 88 #[.val (.ref a), .val (.ref b204), .val (.int (own_nf2 v0 v1)), .val (.int (own_nf1 v0)), .val (.int (own_nt2_1 v0 v1)), .val (.int ((0 : Int32) + (1 : Int32)))] [])) _
    rw [show ((0 : Int32) + (1 : Int32)) = (1 : Int32) from (by decide : ((0 : Int32) + (1 : Int32)) = (1 : Int32))]
    show Steps p.tables e below (T257.setTop (mkF m 88 #[.val (.ref a), .val (.ref b204), .val (.int (own_nf2 v0 v1)), .val (.int (own_nf1 v0)), .val (.int (own_nt2_1 v0 v1)), .val (.int (1 : Int32))] [])) _
    refine XS.goto X257.here hx rfl (pc0 := 88) (pc' := 50) rfl (hb hby d3_88) (by decide) (by decide) ?_
    show Steps p.tables e below (T257.setTop (mkF m 50 #[.val (.ref a), .val (.ref b204), .val (.int (own_nf2 v0 v1)), .val (.int (own_nf1 v0)), .val (.int (own_nt2_1 v0 v1)), .val (.int (1 : Int32))] [])) _
    refine XS.iload X257.here hx rfl (hb hby d3_50) rfl ?_
    show Steps p.tables e below (T257.setTop (mkF m 52 #[.val (.ref a), .val (.ref b204), .val (.int (own_nf2 v0 v1)), .val (.int (own_nf1 v0)), .val (.int (own_nt2_1 v0 v1)), .val (.int (1 : Int32))] [(.int (1 : Int32))])) _
    refine XS.aloadN X257.here hx rfl (hb hby d3_52) rfl rfl ?_
    show Steps p.tables e below (T257.setTop (mkF m 53 #[.val (.ref a), .val (.ref b204), .val (.int (own_nf2 v0 v1)), .val (.int (own_nf1 v0)), .val (.int (own_nt2_1 v0 v1)), .val (.int (1 : Int32))] [(.ref a), (.int (1 : Int32))])) _
    exact kq)
  have f260 := (f207.other W257 (Or.inl ne_a_b204))
  obtain ⟨T261, X261, e261, st261⟩ := getF X257 hx hZ hown (host := "") (Or.inl (hw _ (List.mem_of_getElem? (i := 28) rfl))) Via.refl e257 f260 (g := (mkF m 53 #[.val (.ref a), .val (.ref b204), .val (.int (own_nf2 v0 v1)), .val (.int (own_nf1 v0)), .val (.int (own_nt2_1 v0 v1)), .val (.int (1 : Int32))] [(.ref a), (.int (1 : Int32))])) rfl rfl (hb hby d3_53)
  have G262 : Go p e below A0 (T261.setTop (mkF m 56 #[.val (.ref a), .val (.ref b204), .val (.int (own_nf2 v0 v1)), .val (.int (own_nf1 v0)), .val (.int (own_nt2_1 v0 v1)), .val (.int (1 : Int32))] [(.int (2 : Int32)), (.int (1 : Int32))])) := fun tq kq => G259 tq (st261 _ kq)
  have G263 : Go p e below A0 (T261.setTop (mkF m 61 #[.val (.ref a), .val (.ref b204), .val (.int (own_nf2 v0 v1)), .val (.int (own_nf1 v0)), .val (.int (own_nt2_1 v0 v1)), .val (.int (1 : Int32))] [(.ref a), (.ref b204)])) := fun tq kq => G262 tq (by
    refine XS.icmpNo X261.here hx rfl (hb hby d3_56) rfl (by decide) ?_
    show Steps p.tables e below (T261.setTop (mkF m 59 #[.val (.ref a), .val (.ref b204), .val (.int (own_nf2 v0 v1)), .val (.int (own_nf1 v0)), .val (.int (own_nt2_1 v0 v1)), .val (.int (1 : Int32))] [])) _
    refine XS.aloadN X261.here hx rfl (hb hby d3_59) rfl rfl ?_
    show Steps p.tables e below (T261.setTop (mkF m 60 #[.val (.ref a), .val (.ref b204), .val (.int (own_nf2 v0 v1)), .val (.int (own_nf1 v0)), .val (.int (own_nt2_1 v0 v1)), .val (.int (1 : Int32))] [(.ref b204)])) _
    refine XS.aloadN X261.here hx rfl (hb hby d3_60) rfl rfl ?_
    show Steps p.tables e below (T261.setTop (mkF m 61 #[.val (.ref a), .val (.ref b204), .val (.int (own_nf2 v0 v1)), .val (.int (own_nf1 v0)), .val (.int (own_nt2_1 v0 v1)), .val (.int (1 : Int32))] [(.ref a), (.ref b204)])) _
    exact kq)
  have f264 := (f211.other W257 (Or.inl ne_a_b204))
  obtain ⟨T265, X265, e265, st265⟩ := getF X261 hx hZ hown (host := "") (Or.inl (hw _ (List.mem_of_getElem? (i := 19) rfl))) Via.refl e261 f264 (g := (mkF m 61 #[.val (.ref a), .val (.ref b204), .val (.int (own_nf2 v0 v1)), .val (.int (own_nf1 v0)), .val (.int (own_nt2_1 v0 v1)), .val (.int (1 : Int32))] [(.ref a), (.ref b204)])) rfl rfl (hb hby d3_61)
  have G266 : Go p e below A0 (T265.setTop (mkF m 64 #[.val (.ref a), .val (.ref b204), .val (.int (own_nf2 v0 v1)), .val (.int (own_nf1 v0)), .val (.int (own_nt2_1 v0 v1)), .val (.int (1 : Int32))] [(.ref b), (.ref b204)])) := fun tq kq => G263 tq (st265 _ kq)
  have G267 : Go p e below A0 (T265.setTop (mkF m 66 #[.val (.ref a), .val (.ref b204), .val (.int (own_nf2 v0 v1)), .val (.int (own_nf1 v0)), .val (.int (own_nt2_1 v0 v1)), .val (.int (1 : Int32))] [(.int (1 : Int32)), (.ref b), (.ref b204)])) := fun tq kq => G266 tq (by
    refine XS.iload X265.here hx rfl (hb hby d3_64) rfl ?_
    show Steps p.tables e below (T265.setTop (mkF m 66 #[.val (.ref a), .val (.ref b204), .val (.int (own_nf2 v0 v1)), .val (.int (own_nf1 v0)), .val (.int (own_nt2_1 v0 v1)), .val (.int (1 : Int32))] [(.int (1 : Int32)), (.ref b), (.ref b204)])) _
    exact kq)
  have f268 := (f215.other W257 ne_b_b204)
  obtain ⟨cl269, Ar269, q269, S269, M269, H269, Gf269⟩ := id f268
  have hi270 : ¬ ((1 : Int32) < 0 ∨ cl269.slots.size ≤ ((1 : Int32)).toNatClampNeg) := (inb_of S269 ⟨by decide, by decide⟩)
  have G271 : Go p e below A0 (T265.setTop (mkF m 67 #[.val (.ref a), .val (.ref b204), .val (.int (own_nf2 v0 v1)), .val (.int (own_nf1 v0)), .val (.int (own_nt2_1 v0 v1)), .val (.int (1 : Int32))] [(.int v1), (.ref b204)])) := fun tq kq => G267 tq (by
    refine X265.baloadBooleans hx (j := (1 : Int32)) (v := (.int v1)) (by rw [e265]; exact Ar269.1) (State.isArrayOf_alike hZ.alike Ar269.2.1) Ar269.2.2 hi270 (H269.at hi270 rfl) (g := (mkF m 66 #[.val (.ref a), .val (.ref b204), .val (.int (own_nf2 v0 v1)), .val (.int (own_nf1 v0)), .val (.int (own_nt2_1 v0 v1)), .val (.int (1 : Int32))] [(.int (1 : Int32)), (.ref b), (.ref b204)])) rfl rfl (hb hby d3_66) _ ?_
    show Steps p.tables e below (T265.setTop (mkF m 67 #[.val (.ref a), .val (.ref b204), .val (.int (own_nf2 v0 v1)), .val (.int (own_nf1 v0)), .val (.int (own_nt2_1 v0 v1)), .val (.int (1 : Int32))] [(.int v1), (.ref b204)])) _
    exact kq)
  obtain ⟨x1, y1, z1, hG272, G272⟩ : ∃ (x1 : Int32) (y1 : Int32) (z1 : Int32), (x1 = (own_ix2_1 v0 v1) ∧ y1 = (own_nf2 v0 v1) ∧ z1 = (own_nt2_2 v0 v1)) ∧ Go p e below A0 (T265.setTop (mkF m 82 #[.val (.ref a), .val (.ref b204), .val (.int (own_nf2 v0 v1)), .val (.int y1), .val (.int z1), .val (.int (1 : Int32))] [(.int x1), (.ref b204)])) := by
    by_cases hc273 : v1 = (0 : Int32)
    · have G274 : Go p e below A0 (T265.setTop (mkF m 82 #[.val (.ref a), .val (.ref b204), .val (.int (own_nf2 v0 v1)), .val (.int ((own_nf1 v0) + (1 : Int32))), .val (.int (own_nt2_1 v0 v1)), .val (.int (1 : Int32))] [(.int (own_nf1 v0)), (.ref b204)])) := fun tq kq => G271 tq (by
        refine XS.ifYes X265.here hx rfl (pc0 := 67) (pc' := 78) rfl (hb hby d3_67) rfl ((if0 _ _).trans (teq hc273).1) (by decide) (by decide) ?_
        show Steps p.tables e below (T265.setTop (mkF m 78 #[.val (.ref a), .val (.ref b204), .val (.int (own_nf2 v0 v1)), .val (.int (own_nf1 v0)), .val (.int (own_nt2_1 v0 v1)), .val (.int (1 : Int32))] [(.ref b204)])) _
        refine XS.iloadN X265.here hx rfl (hb hby d3_78) rfl ?_
        show Steps p.tables e below (T265.setTop (mkF m 79 #[.val (.ref a), .val (.ref b204), .val (.int (own_nf2 v0 v1)), .val (.int (own_nf1 v0)), .val (.int (own_nt2_1 v0 v1)), .val (.int (1 : Int32))] [(.int (own_nf1 v0)), (.ref b204)])) _
        refine XS.iinc X265.here hx rfl (hb hby d3_79) rfl (l' := #[.val (.ref a), .val (.ref b204), .val (.int (own_nf2 v0 v1)), .val (.int ((own_nf1 v0) + (1 : Int32))), .val (.int (own_nt2_1 v0 v1)), .val (.int (1 : Int32))]) rfl ?_
        show Steps p.tables e below (T265.setTop (mkF m 82 #[.val (.ref a), .val (.ref b204), .val (.int (own_nf2 v0 v1)), .val (.int ((own_nf1 v0) + (1 : Int32))), .val (.int (own_nt2_1 v0 v1)), .val (.int (1 : Int32))] [(.int (own_nf1 v0)), (.ref b204)])) _
        exact kq)
      exact ⟨(own_nf1 v0), ((own_nf1 v0) + (1 : Int32)), (own_nt2_1 v0 v1), (by exact ⟨(if_pos hc273).symm, (congrArg (fun q => (own_nf1 v0) + q) (own_bt hc273)).symm, ((congrArg (fun q => (own_nt2_1 v0 v1) + q) (own_b0 (fun q => q hc273))).trans (Int32.add_zero _)).symm⟩), G274⟩
    · have G275 : Go p e below A0 (T265.setTop (mkF m 82 #[.val (.ref a), .val (.ref b204), .val (.int (own_nf2 v0 v1)), .val (.int (own_nf1 v0)), .val (.int ((own_nt2_1 v0 v1) + (1 : Int32))), .val (.int (1 : Int32))] [(.int (own_nt2_1 v0 v1)), (.ref b204)])) := fun tq kq => G271 tq (by
        refine XS.ifNo X265.here hx rfl (hb hby d3_67) rfl ((if0 _ _).trans (feq hc273).1) ?_
        show Steps p.tables e below (T265.setTop (mkF m 70 #[.val (.ref a), .val (.ref b204), .val (.int (own_nf2 v0 v1)), .val (.int (own_nf1 v0)), .val (.int (own_nt2_1 v0 v1)), .val (.int (1 : Int32))] [(.ref b204)])) _
        refine XS.iload X265.here hx rfl (hb hby d3_70) rfl ?_
        show Steps p.tables e below (T265.setTop (mkF m 72 #[.val (.ref a), .val (.ref b204), .val (.int (own_nf2 v0 v1)), .val (.int (own_nf1 v0)), .val (.int (own_nt2_1 v0 v1)), .val (.int (1 : Int32))] [(.int (own_nt2_1 v0 v1)), (.ref b204)])) _
        refine XS.iinc X265.here hx rfl (hb hby d3_72) rfl (l' := #[.val (.ref a), .val (.ref b204), .val (.int (own_nf2 v0 v1)), .val (.int (own_nf1 v0)), .val (.int ((own_nt2_1 v0 v1) + (1 : Int32))), .val (.int (1 : Int32))]) rfl ?_
        show Steps p.tables e below (T265.setTop (mkF m 75 #[.val (.ref a), .val (.ref b204), .val (.int (own_nf2 v0 v1)), .val (.int (own_nf1 v0)), .val (.int ((own_nt2_1 v0 v1) + (1 : Int32))), .val (.int (1 : Int32))] [(.int (own_nt2_1 v0 v1)), (.ref b204)])) _
        refine XS.goto X265.here hx rfl (pc0 := 75) (pc' := 82) rfl (hb hby d3_75) (by decide) (by decide) ?_
        show Steps p.tables e below (T265.setTop (mkF m 82 #[.val (.ref a), .val (.ref b204), .val (.int (own_nf2 v0 v1)), .val (.int (own_nf1 v0)), .val (.int ((own_nt2_1 v0 v1) + (1 : Int32))), .val (.int (1 : Int32))] [(.int (own_nt2_1 v0 v1)), (.ref b204)])) _
        exact kq)
      exact ⟨(own_nt2_1 v0 v1), (own_nf1 v0), ((own_nt2_1 v0 v1) + (1 : Int32)), (by exact ⟨(if_neg hc273).symm, ((congrArg (fun q => (own_nf1 v0) + q) (own_b0 hc273)).trans (Int32.add_zero _)).symm, (congrArg (fun q => (own_nt2_1 v0 v1) + q) (own_bt hc273)).symm⟩), G275⟩
  obtain ⟨rfl, rfl, rfl⟩ := hG272
  have G276 : Go p e below A0 (T265.setTop (mkF m 84 #[.val (.ref a), .val (.ref b204), .val (.int (own_nf2 v0 v1)), .val (.int (own_nf2 v0 v1)), .val (.int (own_nt2_2 v0 v1)), .val (.int (1 : Int32))] [(.int (1 : Int32)), (.int (own_ix2_1 v0 v1)), (.ref b204)])) := fun tq kq => G272 tq (by
    refine XS.iload X265.here hx rfl (hb hby d3_82) rfl ?_
    show Steps p.tables e below (T265.setTop (mkF m 84 #[.val (.ref a), .val (.ref b204), .val (.int (own_nf2 v0 v1)), .val (.int (own_nf2 v0 v1)), .val (.int (own_nt2_2 v0 v1)), .val (.int (1 : Int32))] [(.int (1 : Int32)), (.int (own_ix2_1 v0 v1)), (.ref b204)])) _
    exact kq)
  obtain ⟨cl277, Ar277, q277, S277, M277, H277⟩ := id V257'
  have hi278 : ¬ ((own_ix2_1 v0 v1) < 0 ∨ cl277.slots.size ≤ ((own_ix2_1 v0 v1)).toNatClampNeg) := (inb_of S277 (own_idx_2_1 v0 v1 hb0 hb1))
  obtain ⟨T279, h279, X279, e279, W279, st279⟩ := stI X265 hx hZ e265 Ar277 (j := (own_ix2_1 v0 v1)) hi278 (g := (mkF m 84 #[.val (.ref a), .val (.ref b204), .val (.int (own_nf2 v0 v1)), .val (.int (own_nf2 v0 v1)), .val (.int (own_nt2_2 v0 v1)), .val (.int (1 : Int32))] [(.int (1 : Int32)), (.int (own_ix2_1 v0 v1)), (.ref b204)])) rfl rfl (hb hby d3_84)
  have N279 := Fr.snoc X279 N257 g_b204
  have V279 : Af Z h279 b204 k204 .int (2 : Int32) (fun i => if i = ((own_ix2_1 v0 v1)).toNatClampNeg then (.int (1 : Int32)) else ((own_g2_1 v0 v1)) i) := Af.set Ar277 q277 S277 M277 H277 W279 hi278
  have V279' : Af Z h279 b204 k204 .int (2 : Int32) (own_g2_2 v0 v1) := V279.fn (fun _ _ => rfl)
  have G280 : Go p e below A0 (T279.setTop (mkF m 85 #[.val (.ref a), .val (.ref b204), .val (.int (own_nf2 v0 v1)), .val (.int (own_nf2 v0 v1)), .val (.int (own_nt2_2 v0 v1)), .val (.int (1 : Int32))] [])) := fun tq kq => G276 tq (st279 _ kq)
  have G281 : Go p e below A0 (T279.setTop (mkF m 53 #[.val (.ref a), .val (.ref b204), .val (.int (own_nf2 v0 v1)), .val (.int (own_nf2 v0 v1)), .val (.int (own_nt2_2 v0 v1)), .val (.int (2 : Int32))] [(.ref a), (.int (2 : Int32))])) := fun tq kq => G280 tq (by
    refine XS.iinc X279.here hx rfl (hb hby d3_85) rfl (l' := #[.val (.ref a), .val (.ref b204), .val (.int (own_nf2 v0 v1)), .val (.int (own_nf2 v0 v1)), .val (.int (own_nt2_2 v0 v1)), .val (.int ((1 : Int32) + (1 : Int32)))]) rfl ?_
    show Steps p.tables e below (T279.setTop (mkF m 88 #[.val (.ref a), .val (.ref b204), .val (.int (own_nf2 v0 v1)), .val (.int (own_nf2 v0 v1)), .val (.int (own_nt2_2 v0 v1)), .val (.int ((1 : Int32) + (1 : Int32)))] [])) _
    rw [show ((1 : Int32) + (1 : Int32)) = (2 : Int32) from (by decide : ((1 : Int32) + (1 : Int32)) = (2 : Int32))]
    show Steps p.tables e below (T279.setTop (mkF m 88 #[.val (.ref a), .val (.ref b204), .val (.int (own_nf2 v0 v1)), .val (.int (own_nf2 v0 v1)), .val (.int (own_nt2_2 v0 v1)), .val (.int (2 : Int32))] [])) _
    refine XS.goto X279.here hx rfl (pc0 := 88) (pc' := 50) rfl (hb hby d3_88) (by decide) (by decide) ?_
    show Steps p.tables e below (T279.setTop (mkF m 50 #[.val (.ref a), .val (.ref b204), .val (.int (own_nf2 v0 v1)), .val (.int (own_nf2 v0 v1)), .val (.int (own_nt2_2 v0 v1)), .val (.int (2 : Int32))] [])) _
    refine XS.iload X279.here hx rfl (hb hby d3_50) rfl ?_
    show Steps p.tables e below (T279.setTop (mkF m 52 #[.val (.ref a), .val (.ref b204), .val (.int (own_nf2 v0 v1)), .val (.int (own_nf2 v0 v1)), .val (.int (own_nt2_2 v0 v1)), .val (.int (2 : Int32))] [(.int (2 : Int32))])) _
    refine XS.aloadN X279.here hx rfl (hb hby d3_52) rfl rfl ?_
    show Steps p.tables e below (T279.setTop (mkF m 53 #[.val (.ref a), .val (.ref b204), .val (.int (own_nf2 v0 v1)), .val (.int (own_nf2 v0 v1)), .val (.int (own_nt2_2 v0 v1)), .val (.int (2 : Int32))] [(.ref a), (.int (2 : Int32))])) _
    exact kq)
  have f282 := (f260.other W279 (Or.inl ne_a_b204))
  obtain ⟨T283, X283, e283, st283⟩ := getF X279 hx hZ hown (host := "") (Or.inl (hw _ (List.mem_of_getElem? (i := 28) rfl))) Via.refl e279 f282 (g := (mkF m 53 #[.val (.ref a), .val (.ref b204), .val (.int (own_nf2 v0 v1)), .val (.int (own_nf2 v0 v1)), .val (.int (own_nt2_2 v0 v1)), .val (.int (2 : Int32))] [(.ref a), (.int (2 : Int32))])) rfl rfl (hb hby d3_53)
  have G284 : Go p e below A0 (T283.setTop (mkF m 56 #[.val (.ref a), .val (.ref b204), .val (.int (own_nf2 v0 v1)), .val (.int (own_nf2 v0 v1)), .val (.int (own_nt2_2 v0 v1)), .val (.int (2 : Int32))] [(.int (2 : Int32)), (.int (2 : Int32))])) := fun tq kq => G281 tq (st283 _ kq)
  have G285 : Go p e below A0 (T283.setTop (mkF m 92 #[.val (.ref a), .val (.ref b204), .val (.int (own_nf2 v0 v1)), .val (.int (own_nf2 v0 v1)), .val (.int (own_nt2_2 v0 v1)), .val (.int (2 : Int32))] [(.ref b204)])) := fun tq kq => G284 tq (by
    refine XS.icmpYes X283.here hx rfl (pc0 := 56) (pc' := 91) rfl (hb hby d3_56) rfl (by decide) (by decide) (by decide) ?_
    show Steps p.tables e below (T283.setTop (mkF m 91 #[.val (.ref a), .val (.ref b204), .val (.int (own_nf2 v0 v1)), .val (.int (own_nf2 v0 v1)), .val (.int (own_nt2_2 v0 v1)), .val (.int (2 : Int32))] [])) _
    refine XS.aloadN X283.here hx rfl (hb hby d3_91) rfl rfl ?_
    show Steps p.tables e below (T283.setTop (mkF m 92 #[.val (.ref a), .val (.ref b204), .val (.int (own_nf2 v0 v1)), .val (.int (own_nf2 v0 v1)), .val (.int (own_nt2_2 v0 v1)), .val (.int (2 : Int32))] [(.ref b204)])) _
    exact kq)
  obtain ⟨fs, hr, hrun, hended, hW, hsame⟩ := X283.leave (v := some (.ref b204)) (fun h => by rw [Bd.returns] at h; cases h)
  refine ⟨_, _, (by rw [← hA0]; exact G285 _ (retOut X283 hx (t := (.array .int)) Bd.returns rfl (Or.inr (Or.inr (Or.inr (Or.inr ⟨rfl, rfl, rfl⟩)))) (hb hby d3_92) hr)), hrun, hended, _, _, rfl, ?_, ⟨_, rfl⟩, hW, hsame.mono (by decide) (by decide)⟩
  show Qo2 Z v0 v1 h0 n0 _ T283.heap _
  rw [e283]
  exact ⟨_, _, rfl, N279, ((((Keep.refl h0 []).ext E204).wr W257 (Or.inr sz_b204)).wr W279 (Or.inr sz_b204)), V279'⟩
def Qo3 (Z : State) (v0 v1 v2 : Int32) (h0 : Heap) (n0 : Nat) (v : Option Value) (h : Heap) (L : List Loc) : Prop := ∃ r kr, v = some (.ref r) ∧ Fr n0 L ∧ Keep h0 h [] ∧ Af Z h r kr .int (3 : Int32) (own_g3_3 v0 v1 v2)
set_option maxRecDepth 65536 in
set_option maxHeartbeats 40000000 in
theorem rmO3 (l : Launch) (Z : State) (a0 : Array Value) (hw : ∀ d ∈ tables_1, d.before a0 Z = true) (ws : List Jvm.Cond) (a b : Addr) (kb : ClassId) (v0 v1 v2 : Int32) (h0 : Heap) (n0 : Nat) (Z0 : n0 ≤ h0.size) (F1 : Fld Z h0 a "com/example/tube2/tube2/trace/BooleanSignal" "values" "[Z" (.ref b)) (F2 : Fld Z h0 a "com/example/tube2/tube2/trace/BooleanSignal" "size" "I" (.int (3 : Int32))) (A : Arv Z h0 b kb .boolean (1024 : Int32) [(.int v0), (.int v1), (.int v2)] (.int (0 : Int32))) (hb0 : v0 = (0 : Int32) ∨ v0 = (1 : Int32)) (hb1 : v1 = (0 : Int32) ∨ v1 = (1 : Int32)) (hb2 : v2 = (0 : Int32) ∨ v2 = (1 : Int32)) :
    MetFree l (⟨"com/example/tube2/tube2/trace/BooleanSignal", "order", "()[I"⟩ : MethodName) (head1 (Jvm.Cond.code (⟨"com/example/tube2/tube2/trace/BooleanSignal", "order", "()[I"⟩ : MethodName) prog_91_method_10_code 6 (some (.array .int)) :: ws) ({ frames := 0, cells := 1, slots := 5, locals := 0 } : Room)) (fun aa UU => aa = #[(.ref a)] ∧ Z.Warmed39 UU.vm ∧ UU.heap = h0) (fun _ _ _ _ _ => True) (fun _ UU oo U' => ∃ v L, oo = .returned v ∧ Qo3 Z v0 v1 v2 h0 n0 v U'.heap L ∧ FrameEnd UU oo U' L ({ frames := 0, cells := 1, slots := 5, locals := 0 } : Room).cells ({ frames := 0, cells := 1, slots := 5, locals := 0 } : Room).slots) := by
  refine MetFree.of_bodySF (plainFor_of_name pn_0) hisR ?_
  intro p e s m args below meth c s₁ Bd hml0 hP hK
  obtain ⟨rfl, hZ, hh⟩ := hP
  have hx := Bd.exec
  have hby := Bd.bytes
  have hml : c.maxLocals = 6 := hml0
  have hown : s.vm.findClass "com/example/tube2/tube2/trace/BooleanSignal" = some m.cls := findClass_of_methodNamed Bd.named
  have hnm := (name_of_methodNamed Bd.named Bd.method).1
  have X0 : Stand p l e ({ frames := 0, cells := 1, slots := 5, locals := 0 } : Room) s m #[(.ref a)] below meth c s₁ [] 0 0 := Stand.of_body Bd
  have e0 : s₁.heap = h0 := by rw [← hh, Bd.state]; rfl
  have N0 := Fr.nil n0
  obtain ⟨A0, hA0⟩ : ∃ A, A = s₁.setTop (entryFrame m #[(.ref a)] 6) := ⟨_, rfl⟩
  have G0 : Go p e below A0 (s₁.setTop (mkF m 0 #[.val (.ref a), .unset, .unset, .unset, .unset, .unset] [])) := fun tq kq => by rw [hA0]; exact castTop (ef_rmO3 m a) kq
  have G286 : Go p e below A0 (s₁.setTop (mkF m 1 #[.val (.ref a), .unset, .unset, .unset, .unset, .unset] [(.ref a)])) := fun tq kq => G0 tq (by
    refine XS.aloadN X0.here hx rfl (hb hby d3_0) rfl rfl ?_
    show Steps p.tables e below (s₁.setTop (mkF m 1 #[.val (.ref a), .unset, .unset, .unset, .unset, .unset] [(.ref a)])) _
    exact kq)
  obtain ⟨T287, X287, e287, st287⟩ := getF X0 hx hZ hown (host := "") (Or.inl (hw _ (List.mem_of_getElem? (i := 28) rfl))) Via.refl e0 F2 (g := (mkF m 1 #[.val (.ref a), .unset, .unset, .unset, .unset, .unset] [(.ref a)])) rfl rfl (hb hby d3_1)
  have G288 : Go p e below A0 (T287.setTop (mkF m 4 #[.val (.ref a), .unset, .unset, .unset, .unset, .unset] [(.int (3 : Int32))])) := fun tq kq => G286 tq (st287 _ kq)
  obtain ⟨T289, h289, k289, X289, e289, E289, A289, st289⟩ := newP X287 hx hZ (hw _ (List.mem_of_getElem? (i := 30) rfl)) e287 (g := (mkF m 4 #[.val (.ref a), .unset, .unset, .unset, .unset, .unset] [(.int (3 : Int32))])) rfl (hb hby d3_4) rfl (by decide) (cap := 3) (by decide) (by decide) (by decide) (by decide)
  obtain ⟨b289, g289⟩ : ∃ z, z = h0.size := ⟨_, rfl⟩
  rw [← g289] at A289 st289
  have sz_b289 : h0.size ≤ b289 := Nat.le_trans (Nat.le_refl h0.size) (Nat.le_of_eq g289.symm)
  have g_b289 : n0 ≤ b289 := Nat.le_trans Z0 (Nat.le_of_eq g289.symm)
  have ne_a_b289 : a ≠ b289 := Nat.ne_of_lt (Nat.lt_of_lt_of_le F1.lt (Nat.le_of_eq g289.symm))
  have ne_b_b289 : b ≠ b289 := Nat.ne_of_lt (Nat.lt_of_lt_of_le A.lt (Nat.le_of_eq g289.symm))
  have V289 : Arv Z h289 b289 k289 .int (3 : Int32) [(.int (0 : Int32)), (.int (0 : Int32)), (.int (0 : Int32))] (.int (0 : Int32)) := (Arv.new A289 (by decide)).pad (pad_rep [] (.int (0 : Int32)) 3)
  have G290 : Go p e below A0 (T289.setTop (mkF m 6 #[.val (.ref a), .unset, .unset, .unset, .unset, .unset] [(.ref b289)])) := fun tq kq => G288 tq (st289 _ kq)
  have Af0 : Af Z h289 b289 k289 .int (3 : Int32) (own_g3_0 v0 v1 v2) := Af.of V289
  have G291 : Go p e below A0 (T289.setTop (mkF m 13 #[.val (.ref a), .val (.ref b289), .val (.int (0 : Int32)), .val (.int (0 : Int32)), .unset, .unset] [(.ref a), (.int (0 : Int32))])) := fun tq kq => G290 tq (by
    refine XS.astoreN X289.here hx rfl (hb hby d3_6) rfl rfl (l' := #[.val (.ref a), .val (.ref b289), .unset, .unset, .unset, .unset]) rfl ?_
    show Steps p.tables e below (T289.setTop (mkF m 7 #[.val (.ref a), .val (.ref b289), .unset, .unset, .unset, .unset] [])) _
    refine XS.iconst X289.here hx rfl (hb hby d3_7) ?_
    show Steps p.tables e below (T289.setTop (mkF m 8 #[.val (.ref a), .val (.ref b289), .unset, .unset, .unset, .unset] [(.int (0 : Int32))])) _
    refine XS.istoreN X289.here hx rfl (hb hby d3_8) rfl (l' := #[.val (.ref a), .val (.ref b289), .val (.int (0 : Int32)), .unset, .unset, .unset]) rfl ?_
    show Steps p.tables e below (T289.setTop (mkF m 9 #[.val (.ref a), .val (.ref b289), .val (.int (0 : Int32)), .unset, .unset, .unset] [])) _
    refine XS.iconst X289.here hx rfl (hb hby d3_9) ?_
    show Steps p.tables e below (T289.setTop (mkF m 10 #[.val (.ref a), .val (.ref b289), .val (.int (0 : Int32)), .unset, .unset, .unset] [(.int (0 : Int32))])) _
    refine XS.istoreN X289.here hx rfl (hb hby d3_10) rfl (l' := #[.val (.ref a), .val (.ref b289), .val (.int (0 : Int32)), .val (.int (0 : Int32)), .unset, .unset]) rfl ?_
    show Steps p.tables e below (T289.setTop (mkF m 11 #[.val (.ref a), .val (.ref b289), .val (.int (0 : Int32)), .val (.int (0 : Int32)), .unset, .unset] [])) _
    refine XS.iloadN X289.here hx rfl (hb hby d3_11) rfl ?_
    show Steps p.tables e below (T289.setTop (mkF m 12 #[.val (.ref a), .val (.ref b289), .val (.int (0 : Int32)), .val (.int (0 : Int32)), .unset, .unset] [(.int (0 : Int32))])) _
    refine XS.aloadN X289.here hx rfl (hb hby d3_12) rfl rfl ?_
    show Steps p.tables e below (T289.setTop (mkF m 13 #[.val (.ref a), .val (.ref b289), .val (.int (0 : Int32)), .val (.int (0 : Int32)), .unset, .unset] [(.ref a), (.int (0 : Int32))])) _
    exact kq)
  have f292 := (F2.ext E289)
  obtain ⟨T293, X293, e293, st293⟩ := getF X289 hx hZ hown (host := "") (Or.inl (hw _ (List.mem_of_getElem? (i := 28) rfl))) Via.refl e289 f292 (g := (mkF m 13 #[.val (.ref a), .val (.ref b289), .val (.int (0 : Int32)), .val (.int (0 : Int32)), .unset, .unset] [(.ref a), (.int (0 : Int32))])) rfl rfl (hb hby d3_13)
  have G294 : Go p e below A0 (T293.setTop (mkF m 16 #[.val (.ref a), .val (.ref b289), .val (.int (0 : Int32)), .val (.int (0 : Int32)), .unset, .unset] [(.int (3 : Int32)), (.int (0 : Int32))])) := fun tq kq => G291 tq (st293 _ kq)
  have G295 : Go p e below A0 (T293.setTop (mkF m 21 #[.val (.ref a), .val (.ref b289), .val (.int (0 : Int32)), .val (.int (0 : Int32)), .unset, .unset] [(.ref a), (.int (0 : Int32))])) := fun tq kq => G294 tq (by
    refine XS.icmpNo X293.here hx rfl (hb hby d3_16) rfl (by decide) ?_
    show Steps p.tables e below (T293.setTop (mkF m 19 #[.val (.ref a), .val (.ref b289), .val (.int (0 : Int32)), .val (.int (0 : Int32)), .unset, .unset] [])) _
    refine XS.iloadN X293.here hx rfl (hb hby d3_19) rfl ?_
    show Steps p.tables e below (T293.setTop (mkF m 20 #[.val (.ref a), .val (.ref b289), .val (.int (0 : Int32)), .val (.int (0 : Int32)), .unset, .unset] [(.int (0 : Int32))])) _
    refine XS.aloadN X293.here hx rfl (hb hby d3_20) rfl rfl ?_
    show Steps p.tables e below (T293.setTop (mkF m 21 #[.val (.ref a), .val (.ref b289), .val (.int (0 : Int32)), .val (.int (0 : Int32)), .unset, .unset] [(.ref a), (.int (0 : Int32))])) _
    exact kq)
  have f296 := (F1.ext E289)
  obtain ⟨T297, X297, e297, st297⟩ := getF X293 hx hZ hown (host := "") (Or.inl (hw _ (List.mem_of_getElem? (i := 19) rfl))) Via.refl e293 f296 (g := (mkF m 21 #[.val (.ref a), .val (.ref b289), .val (.int (0 : Int32)), .val (.int (0 : Int32)), .unset, .unset] [(.ref a), (.int (0 : Int32))])) rfl rfl (hb hby d3_21)
  have G298 : Go p e below A0 (T297.setTop (mkF m 24 #[.val (.ref a), .val (.ref b289), .val (.int (0 : Int32)), .val (.int (0 : Int32)), .unset, .unset] [(.ref b), (.int (0 : Int32))])) := fun tq kq => G295 tq (st297 _ kq)
  have G299 : Go p e below A0 (T297.setTop (mkF m 25 #[.val (.ref a), .val (.ref b289), .val (.int (0 : Int32)), .val (.int (0 : Int32)), .unset, .unset] [(.int (0 : Int32)), (.ref b), (.int (0 : Int32))])) := fun tq kq => G298 tq (by
    refine XS.iloadN X297.here hx rfl (hb hby d3_24) rfl ?_
    show Steps p.tables e below (T297.setTop (mkF m 25 #[.val (.ref a), .val (.ref b289), .val (.int (0 : Int32)), .val (.int (0 : Int32)), .unset, .unset] [(.int (0 : Int32)), (.ref b), (.int (0 : Int32))])) _
    exact kq)
  have f300 := (A.ext E289)
  obtain ⟨cl301, Ar301, q301, S301, M301, H301, Gf301⟩ := id f300
  have hi302 : ¬ ((0 : Int32) < 0 ∨ cl301.slots.size ≤ ((0 : Int32)).toNatClampNeg) := (inb_of S301 ⟨by decide, by decide⟩)
  have G303 : Go p e below A0 (T297.setTop (mkF m 26 #[.val (.ref a), .val (.ref b289), .val (.int (0 : Int32)), .val (.int (0 : Int32)), .unset, .unset] [(.int v0), (.int (0 : Int32))])) := fun tq kq => G299 tq (by
    refine X297.baloadBooleans hx (j := (0 : Int32)) (v := (.int v0)) (by rw [e297]; exact Ar301.1) (State.isArrayOf_alike hZ.alike Ar301.2.1) Ar301.2.2 hi302 (H301.at hi302 rfl) (g := (mkF m 25 #[.val (.ref a), .val (.ref b289), .val (.int (0 : Int32)), .val (.int (0 : Int32)), .unset, .unset] [(.int (0 : Int32)), (.ref b), (.int (0 : Int32))])) rfl rfl (hb hby d3_25) _ ?_
    show Steps p.tables e below (T297.setTop (mkF m 26 #[.val (.ref a), .val (.ref b289), .val (.int (0 : Int32)), .val (.int (0 : Int32)), .unset, .unset] [(.int v0), (.int (0 : Int32))])) _
    exact kq)
  obtain ⟨t0, hG304, G304⟩ : ∃ (t0 : Int32), (t0 = (own_z v0)) ∧ Go p e below A0 (T297.setTop (mkF m 34 #[.val (.ref a), .val (.ref b289), .val (.int (0 : Int32)), .val (.int (0 : Int32)), .unset, .unset] [(.int t0), (.int (0 : Int32))])) := by
    by_cases hc305 : v0 = (0 : Int32)
    · have G306 : Go p e below A0 (T297.setTop (mkF m 34 #[.val (.ref a), .val (.ref b289), .val (.int (0 : Int32)), .val (.int (0 : Int32)), .unset, .unset] [(.int (1 : Int32)), (.int (0 : Int32))])) := fun tq kq => G303 tq (by
        refine XS.ifYes X297.here hx rfl (pc0 := 26) (pc' := 33) rfl (hb hby d3_26) rfl ((if0 _ _).trans (teq hc305).1) (by decide) (by decide) ?_
        show Steps p.tables e below (T297.setTop (mkF m 33 #[.val (.ref a), .val (.ref b289), .val (.int (0 : Int32)), .val (.int (0 : Int32)), .unset, .unset] [(.int (0 : Int32))])) _
        refine XS.iconst X297.here hx rfl (hb hby d3_33) ?_
        show Steps p.tables e below (T297.setTop (mkF m 34 #[.val (.ref a), .val (.ref b289), .val (.int (0 : Int32)), .val (.int (0 : Int32)), .unset, .unset] [(.int (1 : Int32)), (.int (0 : Int32))])) _
        exact kq)
      exact ⟨(1 : Int32), (by simp [own_z, own_b, hc305]), G306⟩
    · have G307 : Go p e below A0 (T297.setTop (mkF m 34 #[.val (.ref a), .val (.ref b289), .val (.int (0 : Int32)), .val (.int (0 : Int32)), .unset, .unset] [(.int (0 : Int32)), (.int (0 : Int32))])) := fun tq kq => G303 tq (by
        refine XS.ifNo X297.here hx rfl (hb hby d3_26) rfl ((if0 _ _).trans (feq hc305).1) ?_
        show Steps p.tables e below (T297.setTop (mkF m 29 #[.val (.ref a), .val (.ref b289), .val (.int (0 : Int32)), .val (.int (0 : Int32)), .unset, .unset] [(.int (0 : Int32))])) _
        refine XS.iconst X297.here hx rfl (hb hby d3_29) ?_
        show Steps p.tables e below (T297.setTop (mkF m 30 #[.val (.ref a), .val (.ref b289), .val (.int (0 : Int32)), .val (.int (0 : Int32)), .unset, .unset] [(.int (0 : Int32)), (.int (0 : Int32))])) _
        refine XS.goto X297.here hx rfl (pc0 := 30) (pc' := 34) rfl (hb hby d3_30) (by decide) (by decide) ?_
        show Steps p.tables e below (T297.setTop (mkF m 34 #[.val (.ref a), .val (.ref b289), .val (.int (0 : Int32)), .val (.int (0 : Int32)), .unset, .unset] [(.int (0 : Int32)), (.int (0 : Int32))])) _
        exact kq)
      exact ⟨(0 : Int32), (by simp [own_z, own_b, hc305]), G307⟩
  subst hG304
  have G308 : Go p e below A0 (T297.setTop (mkF m 13 #[.val (.ref a), .val (.ref b289), .val (.int (own_nf1 v0)), .val (.int (1 : Int32)), .unset, .unset] [(.ref a), (.int (1 : Int32))])) := fun tq kq => G304 tq (by
    refine XS.iadd X297.here hx rfl (hb hby d3_34) rfl ?_
    show Steps p.tables e below (T297.setTop (mkF m 35 #[.val (.ref a), .val (.ref b289), .val (.int (0 : Int32)), .val (.int (0 : Int32)), .unset, .unset] [(.int ((0 : Int32) + (own_z v0)))])) _
    rw [show ((0 : Int32) + (own_z v0)) = (own_nf1 v0) from rfl]
    show Steps p.tables e below (T297.setTop (mkF m 35 #[.val (.ref a), .val (.ref b289), .val (.int (0 : Int32)), .val (.int (0 : Int32)), .unset, .unset] [(.int (own_nf1 v0))])) _
    refine XS.istoreN X297.here hx rfl (hb hby d3_35) rfl (l' := #[.val (.ref a), .val (.ref b289), .val (.int (own_nf1 v0)), .val (.int (0 : Int32)), .unset, .unset]) rfl ?_
    show Steps p.tables e below (T297.setTop (mkF m 36 #[.val (.ref a), .val (.ref b289), .val (.int (own_nf1 v0)), .val (.int (0 : Int32)), .unset, .unset] [])) _
    refine XS.iinc X297.here hx rfl (hb hby d3_36) rfl (l' := #[.val (.ref a), .val (.ref b289), .val (.int (own_nf1 v0)), .val (.int ((0 : Int32) + (1 : Int32))), .unset, .unset]) rfl ?_
    show Steps p.tables e below (T297.setTop (mkF m 39 #[.val (.ref a), .val (.ref b289), .val (.int (own_nf1 v0)), .val (.int ((0 : Int32) + (1 : Int32))), .unset, .unset] [])) _
    rw [show ((0 : Int32) + (1 : Int32)) = (1 : Int32) from (by decide : ((0 : Int32) + (1 : Int32)) = (1 : Int32))]
    show Steps p.tables e below (T297.setTop (mkF m 39 #[.val (.ref a), .val (.ref b289), .val (.int (own_nf1 v0)), .val (.int (1 : Int32)), .unset, .unset] [])) _
    refine XS.goto X297.here hx rfl (pc0 := 39) (pc' := 11) rfl (hb hby d3_39) (by decide) (by decide) ?_
    show Steps p.tables e below (T297.setTop (mkF m 11 #[.val (.ref a), .val (.ref b289), .val (.int (own_nf1 v0)), .val (.int (1 : Int32)), .unset, .unset] [])) _
    refine XS.iloadN X297.here hx rfl (hb hby d3_11) rfl ?_
    show Steps p.tables e below (T297.setTop (mkF m 12 #[.val (.ref a), .val (.ref b289), .val (.int (own_nf1 v0)), .val (.int (1 : Int32)), .unset, .unset] [(.int (1 : Int32))])) _
    refine XS.aloadN X297.here hx rfl (hb hby d3_12) rfl rfl ?_
    show Steps p.tables e below (T297.setTop (mkF m 13 #[.val (.ref a), .val (.ref b289), .val (.int (own_nf1 v0)), .val (.int (1 : Int32)), .unset, .unset] [(.ref a), (.int (1 : Int32))])) _
    exact kq)
  obtain ⟨T309, X309, e309, st309⟩ := getF X297 hx hZ hown (host := "") (Or.inl (hw _ (List.mem_of_getElem? (i := 28) rfl))) Via.refl e297 f292 (g := (mkF m 13 #[.val (.ref a), .val (.ref b289), .val (.int (own_nf1 v0)), .val (.int (1 : Int32)), .unset, .unset] [(.ref a), (.int (1 : Int32))])) rfl rfl (hb hby d3_13)
  have G310 : Go p e below A0 (T309.setTop (mkF m 16 #[.val (.ref a), .val (.ref b289), .val (.int (own_nf1 v0)), .val (.int (1 : Int32)), .unset, .unset] [(.int (3 : Int32)), (.int (1 : Int32))])) := fun tq kq => G308 tq (st309 _ kq)
  have G311 : Go p e below A0 (T309.setTop (mkF m 21 #[.val (.ref a), .val (.ref b289), .val (.int (own_nf1 v0)), .val (.int (1 : Int32)), .unset, .unset] [(.ref a), (.int (own_nf1 v0))])) := fun tq kq => G310 tq (by
    refine XS.icmpNo X309.here hx rfl (hb hby d3_16) rfl (by decide) ?_
    show Steps p.tables e below (T309.setTop (mkF m 19 #[.val (.ref a), .val (.ref b289), .val (.int (own_nf1 v0)), .val (.int (1 : Int32)), .unset, .unset] [])) _
    refine XS.iloadN X309.here hx rfl (hb hby d3_19) rfl ?_
    show Steps p.tables e below (T309.setTop (mkF m 20 #[.val (.ref a), .val (.ref b289), .val (.int (own_nf1 v0)), .val (.int (1 : Int32)), .unset, .unset] [(.int (own_nf1 v0))])) _
    refine XS.aloadN X309.here hx rfl (hb hby d3_20) rfl rfl ?_
    show Steps p.tables e below (T309.setTop (mkF m 21 #[.val (.ref a), .val (.ref b289), .val (.int (own_nf1 v0)), .val (.int (1 : Int32)), .unset, .unset] [(.ref a), (.int (own_nf1 v0))])) _
    exact kq)
  obtain ⟨T312, X312, e312, st312⟩ := getF X309 hx hZ hown (host := "") (Or.inl (hw _ (List.mem_of_getElem? (i := 19) rfl))) Via.refl e309 f296 (g := (mkF m 21 #[.val (.ref a), .val (.ref b289), .val (.int (own_nf1 v0)), .val (.int (1 : Int32)), .unset, .unset] [(.ref a), (.int (own_nf1 v0))])) rfl rfl (hb hby d3_21)
  have G313 : Go p e below A0 (T312.setTop (mkF m 24 #[.val (.ref a), .val (.ref b289), .val (.int (own_nf1 v0)), .val (.int (1 : Int32)), .unset, .unset] [(.ref b), (.int (own_nf1 v0))])) := fun tq kq => G311 tq (st312 _ kq)
  have G314 : Go p e below A0 (T312.setTop (mkF m 25 #[.val (.ref a), .val (.ref b289), .val (.int (own_nf1 v0)), .val (.int (1 : Int32)), .unset, .unset] [(.int (1 : Int32)), (.ref b), (.int (own_nf1 v0))])) := fun tq kq => G313 tq (by
    refine XS.iloadN X312.here hx rfl (hb hby d3_24) rfl ?_
    show Steps p.tables e below (T312.setTop (mkF m 25 #[.val (.ref a), .val (.ref b289), .val (.int (own_nf1 v0)), .val (.int (1 : Int32)), .unset, .unset] [(.int (1 : Int32)), (.ref b), (.int (own_nf1 v0))])) _
    exact kq)
  obtain ⟨cl315, Ar315, q315, S315, M315, H315, Gf315⟩ := id f300
  have hi316 : ¬ ((1 : Int32) < 0 ∨ cl315.slots.size ≤ ((1 : Int32)).toNatClampNeg) := (inb_of S315 ⟨by decide, by decide⟩)
  have G317 : Go p e below A0 (T312.setTop (mkF m 26 #[.val (.ref a), .val (.ref b289), .val (.int (own_nf1 v0)), .val (.int (1 : Int32)), .unset, .unset] [(.int v1), (.int (own_nf1 v0))])) := fun tq kq => G314 tq (by
    refine X312.baloadBooleans hx (j := (1 : Int32)) (v := (.int v1)) (by rw [e312]; exact Ar315.1) (State.isArrayOf_alike hZ.alike Ar315.2.1) Ar315.2.2 hi316 (H315.at hi316 rfl) (g := (mkF m 25 #[.val (.ref a), .val (.ref b289), .val (.int (own_nf1 v0)), .val (.int (1 : Int32)), .unset, .unset] [(.int (1 : Int32)), (.ref b), (.int (own_nf1 v0))])) rfl rfl (hb hby d3_25) _ ?_
    show Steps p.tables e below (T312.setTop (mkF m 26 #[.val (.ref a), .val (.ref b289), .val (.int (own_nf1 v0)), .val (.int (1 : Int32)), .unset, .unset] [(.int v1), (.int (own_nf1 v0))])) _
    exact kq)
  obtain ⟨t1, hG318, G318⟩ : ∃ (t1 : Int32), (t1 = (own_z v1)) ∧ Go p e below A0 (T312.setTop (mkF m 34 #[.val (.ref a), .val (.ref b289), .val (.int (own_nf1 v0)), .val (.int (1 : Int32)), .unset, .unset] [(.int t1), (.int (own_nf1 v0))])) := by
    by_cases hc319 : v1 = (0 : Int32)
    · have G320 : Go p e below A0 (T312.setTop (mkF m 34 #[.val (.ref a), .val (.ref b289), .val (.int (own_nf1 v0)), .val (.int (1 : Int32)), .unset, .unset] [(.int (1 : Int32)), (.int (own_nf1 v0))])) := fun tq kq => G317 tq (by
        refine XS.ifYes X312.here hx rfl (pc0 := 26) (pc' := 33) rfl (hb hby d3_26) rfl ((if0 _ _).trans (teq hc319).1) (by decide) (by decide) ?_
        show Steps p.tables e below (T312.setTop (mkF m 33 #[.val (.ref a), .val (.ref b289), .val (.int (own_nf1 v0)), .val (.int (1 : Int32)), .unset, .unset] [(.int (own_nf1 v0))])) _
        refine XS.iconst X312.here hx rfl (hb hby d3_33) ?_
        show Steps p.tables e below (T312.setTop (mkF m 34 #[.val (.ref a), .val (.ref b289), .val (.int (own_nf1 v0)), .val (.int (1 : Int32)), .unset, .unset] [(.int (1 : Int32)), (.int (own_nf1 v0))])) _
        exact kq)
      exact ⟨(1 : Int32), (by simp [own_z, own_b, hc319]), G320⟩
    · have G321 : Go p e below A0 (T312.setTop (mkF m 34 #[.val (.ref a), .val (.ref b289), .val (.int (own_nf1 v0)), .val (.int (1 : Int32)), .unset, .unset] [(.int (0 : Int32)), (.int (own_nf1 v0))])) := fun tq kq => G317 tq (by
        refine XS.ifNo X312.here hx rfl (hb hby d3_26) rfl ((if0 _ _).trans (feq hc319).1) ?_
        show Steps p.tables e below (T312.setTop (mkF m 29 #[.val (.ref a), .val (.ref b289), .val (.int (own_nf1 v0)), .val (.int (1 : Int32)), .unset, .unset] [(.int (own_nf1 v0))])) _
        refine XS.iconst X312.here hx rfl (hb hby d3_29) ?_
        show Steps p.tables e below (T312.setTop (mkF m 30 #[.val (.ref a), .val (.ref b289), .val (.int (own_nf1 v0)), .val (.int (1 : Int32)), .unset, .unset] [(.int (0 : Int32)), (.int (own_nf1 v0))])) _
        refine XS.goto X312.here hx rfl (pc0 := 30) (pc' := 34) rfl (hb hby d3_30) (by decide) (by decide) ?_
        show Steps p.tables e below (T312.setTop (mkF m 34 #[.val (.ref a), .val (.ref b289), .val (.int (own_nf1 v0)), .val (.int (1 : Int32)), .unset, .unset] [(.int (0 : Int32)), (.int (own_nf1 v0))])) _
        exact kq)
      exact ⟨(0 : Int32), (by simp [own_z, own_b, hc319]), G321⟩
  subst hG318
  have G322 : Go p e below A0 (T312.setTop (mkF m 13 #[.val (.ref a), .val (.ref b289), .val (.int (own_nf2 v0 v1)), .val (.int (2 : Int32)), .unset, .unset] [(.ref a), (.int (2 : Int32))])) := fun tq kq => G318 tq (by
    refine XS.iadd X312.here hx rfl (hb hby d3_34) rfl ?_
    show Steps p.tables e below (T312.setTop (mkF m 35 #[.val (.ref a), .val (.ref b289), .val (.int (own_nf1 v0)), .val (.int (1 : Int32)), .unset, .unset] [(.int ((own_nf1 v0) + (own_z v1)))])) _
    rw [show ((own_nf1 v0) + (own_z v1)) = (own_nf2 v0 v1) from rfl]
    show Steps p.tables e below (T312.setTop (mkF m 35 #[.val (.ref a), .val (.ref b289), .val (.int (own_nf1 v0)), .val (.int (1 : Int32)), .unset, .unset] [(.int (own_nf2 v0 v1))])) _
    refine XS.istoreN X312.here hx rfl (hb hby d3_35) rfl (l' := #[.val (.ref a), .val (.ref b289), .val (.int (own_nf2 v0 v1)), .val (.int (1 : Int32)), .unset, .unset]) rfl ?_
    show Steps p.tables e below (T312.setTop (mkF m 36 #[.val (.ref a), .val (.ref b289), .val (.int (own_nf2 v0 v1)), .val (.int (1 : Int32)), .unset, .unset] [])) _
    refine XS.iinc X312.here hx rfl (hb hby d3_36) rfl (l' := #[.val (.ref a), .val (.ref b289), .val (.int (own_nf2 v0 v1)), .val (.int ((1 : Int32) + (1 : Int32))), .unset, .unset]) rfl ?_
    show Steps p.tables e below (T312.setTop (mkF m 39 #[.val (.ref a), .val (.ref b289), .val (.int (own_nf2 v0 v1)), .val (.int ((1 : Int32) + (1 : Int32))), .unset, .unset] [])) _
    rw [show ((1 : Int32) + (1 : Int32)) = (2 : Int32) from (by decide : ((1 : Int32) + (1 : Int32)) = (2 : Int32))]
    show Steps p.tables e below (T312.setTop (mkF m 39 #[.val (.ref a), .val (.ref b289), .val (.int (own_nf2 v0 v1)), .val (.int (2 : Int32)), .unset, .unset] [])) _
    refine XS.goto X312.here hx rfl (pc0 := 39) (pc' := 11) rfl (hb hby d3_39) (by decide) (by decide) ?_
    show Steps p.tables e below (T312.setTop (mkF m 11 #[.val (.ref a), .val (.ref b289), .val (.int (own_nf2 v0 v1)), .val (.int (2 : Int32)), .unset, .unset] [])) _
    refine XS.iloadN X312.here hx rfl (hb hby d3_11) rfl ?_
    show Steps p.tables e below (T312.setTop (mkF m 12 #[.val (.ref a), .val (.ref b289), .val (.int (own_nf2 v0 v1)), .val (.int (2 : Int32)), .unset, .unset] [(.int (2 : Int32))])) _
    refine XS.aloadN X312.here hx rfl (hb hby d3_12) rfl rfl ?_
    show Steps p.tables e below (T312.setTop (mkF m 13 #[.val (.ref a), .val (.ref b289), .val (.int (own_nf2 v0 v1)), .val (.int (2 : Int32)), .unset, .unset] [(.ref a), (.int (2 : Int32))])) _
    exact kq)
  obtain ⟨T323, X323, e323, st323⟩ := getF X312 hx hZ hown (host := "") (Or.inl (hw _ (List.mem_of_getElem? (i := 28) rfl))) Via.refl e312 f292 (g := (mkF m 13 #[.val (.ref a), .val (.ref b289), .val (.int (own_nf2 v0 v1)), .val (.int (2 : Int32)), .unset, .unset] [(.ref a), (.int (2 : Int32))])) rfl rfl (hb hby d3_13)
  have G324 : Go p e below A0 (T323.setTop (mkF m 16 #[.val (.ref a), .val (.ref b289), .val (.int (own_nf2 v0 v1)), .val (.int (2 : Int32)), .unset, .unset] [(.int (3 : Int32)), (.int (2 : Int32))])) := fun tq kq => G322 tq (st323 _ kq)
  have G325 : Go p e below A0 (T323.setTop (mkF m 21 #[.val (.ref a), .val (.ref b289), .val (.int (own_nf2 v0 v1)), .val (.int (2 : Int32)), .unset, .unset] [(.ref a), (.int (own_nf2 v0 v1))])) := fun tq kq => G324 tq (by
    refine XS.icmpNo X323.here hx rfl (hb hby d3_16) rfl (by decide) ?_
    show Steps p.tables e below (T323.setTop (mkF m 19 #[.val (.ref a), .val (.ref b289), .val (.int (own_nf2 v0 v1)), .val (.int (2 : Int32)), .unset, .unset] [])) _
    refine XS.iloadN X323.here hx rfl (hb hby d3_19) rfl ?_
    show Steps p.tables e below (T323.setTop (mkF m 20 #[.val (.ref a), .val (.ref b289), .val (.int (own_nf2 v0 v1)), .val (.int (2 : Int32)), .unset, .unset] [(.int (own_nf2 v0 v1))])) _
    refine XS.aloadN X323.here hx rfl (hb hby d3_20) rfl rfl ?_
    show Steps p.tables e below (T323.setTop (mkF m 21 #[.val (.ref a), .val (.ref b289), .val (.int (own_nf2 v0 v1)), .val (.int (2 : Int32)), .unset, .unset] [(.ref a), (.int (own_nf2 v0 v1))])) _
    exact kq)
  obtain ⟨T326, X326, e326, st326⟩ := getF X323 hx hZ hown (host := "") (Or.inl (hw _ (List.mem_of_getElem? (i := 19) rfl))) Via.refl e323 f296 (g := (mkF m 21 #[.val (.ref a), .val (.ref b289), .val (.int (own_nf2 v0 v1)), .val (.int (2 : Int32)), .unset, .unset] [(.ref a), (.int (own_nf2 v0 v1))])) rfl rfl (hb hby d3_21)
  have G327 : Go p e below A0 (T326.setTop (mkF m 24 #[.val (.ref a), .val (.ref b289), .val (.int (own_nf2 v0 v1)), .val (.int (2 : Int32)), .unset, .unset] [(.ref b), (.int (own_nf2 v0 v1))])) := fun tq kq => G325 tq (st326 _ kq)
  have G328 : Go p e below A0 (T326.setTop (mkF m 25 #[.val (.ref a), .val (.ref b289), .val (.int (own_nf2 v0 v1)), .val (.int (2 : Int32)), .unset, .unset] [(.int (2 : Int32)), (.ref b), (.int (own_nf2 v0 v1))])) := fun tq kq => G327 tq (by
    refine XS.iloadN X326.here hx rfl (hb hby d3_24) rfl ?_
    show Steps p.tables e below (T326.setTop (mkF m 25 #[.val (.ref a), .val (.ref b289), .val (.int (own_nf2 v0 v1)), .val (.int (2 : Int32)), .unset, .unset] [(.int (2 : Int32)), (.ref b), (.int (own_nf2 v0 v1))])) _
    exact kq)
  obtain ⟨cl329, Ar329, q329, S329, M329, H329, Gf329⟩ := id f300
  have hi330 : ¬ ((2 : Int32) < 0 ∨ cl329.slots.size ≤ ((2 : Int32)).toNatClampNeg) := (inb_of S329 ⟨by decide, by decide⟩)
  have G331 : Go p e below A0 (T326.setTop (mkF m 26 #[.val (.ref a), .val (.ref b289), .val (.int (own_nf2 v0 v1)), .val (.int (2 : Int32)), .unset, .unset] [(.int v2), (.int (own_nf2 v0 v1))])) := fun tq kq => G328 tq (by
    refine X326.baloadBooleans hx (j := (2 : Int32)) (v := (.int v2)) (by rw [e326]; exact Ar329.1) (State.isArrayOf_alike hZ.alike Ar329.2.1) Ar329.2.2 hi330 (H329.at hi330 rfl) (g := (mkF m 25 #[.val (.ref a), .val (.ref b289), .val (.int (own_nf2 v0 v1)), .val (.int (2 : Int32)), .unset, .unset] [(.int (2 : Int32)), (.ref b), (.int (own_nf2 v0 v1))])) rfl rfl (hb hby d3_25) _ ?_
    show Steps p.tables e below (T326.setTop (mkF m 26 #[.val (.ref a), .val (.ref b289), .val (.int (own_nf2 v0 v1)), .val (.int (2 : Int32)), .unset, .unset] [(.int v2), (.int (own_nf2 v0 v1))])) _
    exact kq)
  obtain ⟨t2, hG332, G332⟩ : ∃ (t2 : Int32), (t2 = (own_z v2)) ∧ Go p e below A0 (T326.setTop (mkF m 34 #[.val (.ref a), .val (.ref b289), .val (.int (own_nf2 v0 v1)), .val (.int (2 : Int32)), .unset, .unset] [(.int t2), (.int (own_nf2 v0 v1))])) := by
    by_cases hc333 : v2 = (0 : Int32)
    · have G334 : Go p e below A0 (T326.setTop (mkF m 34 #[.val (.ref a), .val (.ref b289), .val (.int (own_nf2 v0 v1)), .val (.int (2 : Int32)), .unset, .unset] [(.int (1 : Int32)), (.int (own_nf2 v0 v1))])) := fun tq kq => G331 tq (by
        refine XS.ifYes X326.here hx rfl (pc0 := 26) (pc' := 33) rfl (hb hby d3_26) rfl ((if0 _ _).trans (teq hc333).1) (by decide) (by decide) ?_
        show Steps p.tables e below (T326.setTop (mkF m 33 #[.val (.ref a), .val (.ref b289), .val (.int (own_nf2 v0 v1)), .val (.int (2 : Int32)), .unset, .unset] [(.int (own_nf2 v0 v1))])) _
        refine XS.iconst X326.here hx rfl (hb hby d3_33) ?_
        show Steps p.tables e below (T326.setTop (mkF m 34 #[.val (.ref a), .val (.ref b289), .val (.int (own_nf2 v0 v1)), .val (.int (2 : Int32)), .unset, .unset] [(.int (1 : Int32)), (.int (own_nf2 v0 v1))])) _
        exact kq)
      exact ⟨(1 : Int32), (by simp [own_z, own_b, hc333]), G334⟩
    · have G335 : Go p e below A0 (T326.setTop (mkF m 34 #[.val (.ref a), .val (.ref b289), .val (.int (own_nf2 v0 v1)), .val (.int (2 : Int32)), .unset, .unset] [(.int (0 : Int32)), (.int (own_nf2 v0 v1))])) := fun tq kq => G331 tq (by
        refine XS.ifNo X326.here hx rfl (hb hby d3_26) rfl ((if0 _ _).trans (feq hc333).1) ?_
        show Steps p.tables e below (T326.setTop (mkF m 29 #[.val (.ref a), .val (.ref b289), .val (.int (own_nf2 v0 v1)), .val (.int (2 : Int32)), .unset, .unset] [(.int (own_nf2 v0 v1))])) _
        refine XS.iconst X326.here hx rfl (hb hby d3_29) ?_
        show Steps p.tables e below (T326.setTop (mkF m 30 #[.val (.ref a), .val (.ref b289), .val (.int (own_nf2 v0 v1)), .val (.int (2 : Int32)), .unset, .unset] [(.int (0 : Int32)), (.int (own_nf2 v0 v1))])) _
        refine XS.goto X326.here hx rfl (pc0 := 30) (pc' := 34) rfl (hb hby d3_30) (by decide) (by decide) ?_
        show Steps p.tables e below (T326.setTop (mkF m 34 #[.val (.ref a), .val (.ref b289), .val (.int (own_nf2 v0 v1)), .val (.int (2 : Int32)), .unset, .unset] [(.int (0 : Int32)), (.int (own_nf2 v0 v1))])) _
        exact kq)
      exact ⟨(0 : Int32), (by simp [own_z, own_b, hc333]), G335⟩
  subst hG332
  have G336 : Go p e below A0 (T326.setTop (mkF m 13 #[.val (.ref a), .val (.ref b289), .val (.int (own_nf3 v0 v1 v2)), .val (.int (3 : Int32)), .unset, .unset] [(.ref a), (.int (3 : Int32))])) := fun tq kq => G332 tq (by
    refine XS.iadd X326.here hx rfl (hb hby d3_34) rfl ?_
    show Steps p.tables e below (T326.setTop (mkF m 35 #[.val (.ref a), .val (.ref b289), .val (.int (own_nf2 v0 v1)), .val (.int (2 : Int32)), .unset, .unset] [(.int ((own_nf2 v0 v1) + (own_z v2)))])) _
    rw [show ((own_nf2 v0 v1) + (own_z v2)) = (own_nf3 v0 v1 v2) from rfl]
    show Steps p.tables e below (T326.setTop (mkF m 35 #[.val (.ref a), .val (.ref b289), .val (.int (own_nf2 v0 v1)), .val (.int (2 : Int32)), .unset, .unset] [(.int (own_nf3 v0 v1 v2))])) _
    refine XS.istoreN X326.here hx rfl (hb hby d3_35) rfl (l' := #[.val (.ref a), .val (.ref b289), .val (.int (own_nf3 v0 v1 v2)), .val (.int (2 : Int32)), .unset, .unset]) rfl ?_
    show Steps p.tables e below (T326.setTop (mkF m 36 #[.val (.ref a), .val (.ref b289), .val (.int (own_nf3 v0 v1 v2)), .val (.int (2 : Int32)), .unset, .unset] [])) _
    refine XS.iinc X326.here hx rfl (hb hby d3_36) rfl (l' := #[.val (.ref a), .val (.ref b289), .val (.int (own_nf3 v0 v1 v2)), .val (.int ((2 : Int32) + (1 : Int32))), .unset, .unset]) rfl ?_
    show Steps p.tables e below (T326.setTop (mkF m 39 #[.val (.ref a), .val (.ref b289), .val (.int (own_nf3 v0 v1 v2)), .val (.int ((2 : Int32) + (1 : Int32))), .unset, .unset] [])) _
    rw [show ((2 : Int32) + (1 : Int32)) = (3 : Int32) from (by decide : ((2 : Int32) + (1 : Int32)) = (3 : Int32))]
    show Steps p.tables e below (T326.setTop (mkF m 39 #[.val (.ref a), .val (.ref b289), .val (.int (own_nf3 v0 v1 v2)), .val (.int (3 : Int32)), .unset, .unset] [])) _
    refine XS.goto X326.here hx rfl (pc0 := 39) (pc' := 11) rfl (hb hby d3_39) (by decide) (by decide) ?_
    show Steps p.tables e below (T326.setTop (mkF m 11 #[.val (.ref a), .val (.ref b289), .val (.int (own_nf3 v0 v1 v2)), .val (.int (3 : Int32)), .unset, .unset] [])) _
    refine XS.iloadN X326.here hx rfl (hb hby d3_11) rfl ?_
    show Steps p.tables e below (T326.setTop (mkF m 12 #[.val (.ref a), .val (.ref b289), .val (.int (own_nf3 v0 v1 v2)), .val (.int (3 : Int32)), .unset, .unset] [(.int (3 : Int32))])) _
    refine XS.aloadN X326.here hx rfl (hb hby d3_12) rfl rfl ?_
    show Steps p.tables e below (T326.setTop (mkF m 13 #[.val (.ref a), .val (.ref b289), .val (.int (own_nf3 v0 v1 v2)), .val (.int (3 : Int32)), .unset, .unset] [(.ref a), (.int (3 : Int32))])) _
    exact kq)
  obtain ⟨T337, X337, e337, st337⟩ := getF X326 hx hZ hown (host := "") (Or.inl (hw _ (List.mem_of_getElem? (i := 28) rfl))) Via.refl e326 f292 (g := (mkF m 13 #[.val (.ref a), .val (.ref b289), .val (.int (own_nf3 v0 v1 v2)), .val (.int (3 : Int32)), .unset, .unset] [(.ref a), (.int (3 : Int32))])) rfl rfl (hb hby d3_13)
  have G338 : Go p e below A0 (T337.setTop (mkF m 16 #[.val (.ref a), .val (.ref b289), .val (.int (own_nf3 v0 v1 v2)), .val (.int (3 : Int32)), .unset, .unset] [(.int (3 : Int32)), (.int (3 : Int32))])) := fun tq kq => G336 tq (st337 _ kq)
  have G339 : Go p e below A0 (T337.setTop (mkF m 53 #[.val (.ref a), .val (.ref b289), .val (.int (own_nf3 v0 v1 v2)), .val (.int (0 : Int32)), .val (.int (own_nf3 v0 v1 v2)), .val (.int (0 : Int32))] [(.ref a), (.int (0 : Int32))])) := fun tq kq => G338 tq (by
    refine XS.icmpYes X337.here hx rfl (pc0 := 16) (pc' := 42) rfl (hb hby d3_16) rfl (by decide) (by decide) (by decide) ?_
    show Steps p.tables e below (T337.setTop (mkF m 42 #[.val (.ref a), .val (.ref b289), .val (.int (own_nf3 v0 v1 v2)), .val (.int (3 : Int32)), .unset, .unset] [])) _
    refine XS.iconst X337.here hx rfl (hb hby d3_42) ?_
    show Steps p.tables e below (T337.setTop (mkF m 43 #[.val (.ref a), .val (.ref b289), .val (.int (own_nf3 v0 v1 v2)), .val (.int (3 : Int32)), .unset, .unset] [(.int (0 : Int32))])) _
    refine XS.istoreN X337.here hx rfl (hb hby d3_43) rfl (l' := #[.val (.ref a), .val (.ref b289), .val (.int (own_nf3 v0 v1 v2)), .val (.int (0 : Int32)), .unset, .unset]) rfl ?_
    show Steps p.tables e below (T337.setTop (mkF m 44 #[.val (.ref a), .val (.ref b289), .val (.int (own_nf3 v0 v1 v2)), .val (.int (0 : Int32)), .unset, .unset] [])) _
    refine XS.iloadN X337.here hx rfl (hb hby d3_44) rfl ?_
    show Steps p.tables e below (T337.setTop (mkF m 45 #[.val (.ref a), .val (.ref b289), .val (.int (own_nf3 v0 v1 v2)), .val (.int (0 : Int32)), .unset, .unset] [(.int (own_nf3 v0 v1 v2))])) _
    refine XS.istore X337.here hx rfl (hb hby d3_45) rfl (l' := #[.val (.ref a), .val (.ref b289), .val (.int (own_nf3 v0 v1 v2)), .val (.int (0 : Int32)), .val (.int (own_nf3 v0 v1 v2)), .unset]) rfl ?_
    show Steps p.tables e below (T337.setTop (mkF m 47 #[.val (.ref a), .val (.ref b289), .val (.int (own_nf3 v0 v1 v2)), .val (.int (0 : Int32)), .val (.int (own_nf3 v0 v1 v2)), .unset] [])) _
    refine XS.iconst X337.here hx rfl (hb hby d3_47) ?_
    show Steps p.tables e below (T337.setTop (mkF m 48 #[.val (.ref a), .val (.ref b289), .val (.int (own_nf3 v0 v1 v2)), .val (.int (0 : Int32)), .val (.int (own_nf3 v0 v1 v2)), .unset] [(.int (0 : Int32))])) _
    refine XS.istore X337.here hx rfl (hb hby d3_48) rfl (l' := #[.val (.ref a), .val (.ref b289), .val (.int (own_nf3 v0 v1 v2)), .val (.int (0 : Int32)), .val (.int (own_nf3 v0 v1 v2)), .val (.int (0 : Int32))]) rfl ?_
    show Steps p.tables e below (T337.setTop (mkF m 50 #[.val (.ref a), .val (.ref b289), .val (.int (own_nf3 v0 v1 v2)), .val (.int (0 : Int32)), .val (.int (own_nf3 v0 v1 v2)), .val (.int (0 : Int32))] [])) _
    refine XS.iload X337.here hx rfl (hb hby d3_50) rfl ?_
    show Steps p.tables e below (T337.setTop (mkF m 52 #[.val (.ref a), .val (.ref b289), .val (.int (own_nf3 v0 v1 v2)), .val (.int (0 : Int32)), .val (.int (own_nf3 v0 v1 v2)), .val (.int (0 : Int32))] [(.int (0 : Int32))])) _
    refine XS.aloadN X337.here hx rfl (hb hby d3_52) rfl rfl ?_
    show Steps p.tables e below (T337.setTop (mkF m 53 #[.val (.ref a), .val (.ref b289), .val (.int (own_nf3 v0 v1 v2)), .val (.int (0 : Int32)), .val (.int (own_nf3 v0 v1 v2)), .val (.int (0 : Int32))] [(.ref a), (.int (0 : Int32))])) _
    exact kq)
  obtain ⟨T340, X340, e340, st340⟩ := getF X337 hx hZ hown (host := "") (Or.inl (hw _ (List.mem_of_getElem? (i := 28) rfl))) Via.refl e337 f292 (g := (mkF m 53 #[.val (.ref a), .val (.ref b289), .val (.int (own_nf3 v0 v1 v2)), .val (.int (0 : Int32)), .val (.int (own_nf3 v0 v1 v2)), .val (.int (0 : Int32))] [(.ref a), (.int (0 : Int32))])) rfl rfl (hb hby d3_53)
  have G341 : Go p e below A0 (T340.setTop (mkF m 56 #[.val (.ref a), .val (.ref b289), .val (.int (own_nf3 v0 v1 v2)), .val (.int (0 : Int32)), .val (.int (own_nf3 v0 v1 v2)), .val (.int (0 : Int32))] [(.int (3 : Int32)), (.int (0 : Int32))])) := fun tq kq => G339 tq (st340 _ kq)
  have G342 : Go p e below A0 (T340.setTop (mkF m 61 #[.val (.ref a), .val (.ref b289), .val (.int (own_nf3 v0 v1 v2)), .val (.int (0 : Int32)), .val (.int (own_nf3 v0 v1 v2)), .val (.int (0 : Int32))] [(.ref a), (.ref b289)])) := fun tq kq => G341 tq (by
    refine XS.icmpNo X340.here hx rfl (hb hby d3_56) rfl (by decide) ?_
    show Steps p.tables e below (T340.setTop (mkF m 59 #[.val (.ref a), .val (.ref b289), .val (.int (own_nf3 v0 v1 v2)), .val (.int (0 : Int32)), .val (.int (own_nf3 v0 v1 v2)), .val (.int (0 : Int32))] [])) _
    refine XS.aloadN X340.here hx rfl (hb hby d3_59) rfl rfl ?_
    show Steps p.tables e below (T340.setTop (mkF m 60 #[.val (.ref a), .val (.ref b289), .val (.int (own_nf3 v0 v1 v2)), .val (.int (0 : Int32)), .val (.int (own_nf3 v0 v1 v2)), .val (.int (0 : Int32))] [(.ref b289)])) _
    refine XS.aloadN X340.here hx rfl (hb hby d3_60) rfl rfl ?_
    show Steps p.tables e below (T340.setTop (mkF m 61 #[.val (.ref a), .val (.ref b289), .val (.int (own_nf3 v0 v1 v2)), .val (.int (0 : Int32)), .val (.int (own_nf3 v0 v1 v2)), .val (.int (0 : Int32))] [(.ref a), (.ref b289)])) _
    exact kq)
  obtain ⟨T343, X343, e343, st343⟩ := getF X340 hx hZ hown (host := "") (Or.inl (hw _ (List.mem_of_getElem? (i := 19) rfl))) Via.refl e340 f296 (g := (mkF m 61 #[.val (.ref a), .val (.ref b289), .val (.int (own_nf3 v0 v1 v2)), .val (.int (0 : Int32)), .val (.int (own_nf3 v0 v1 v2)), .val (.int (0 : Int32))] [(.ref a), (.ref b289)])) rfl rfl (hb hby d3_61)
  have G344 : Go p e below A0 (T343.setTop (mkF m 64 #[.val (.ref a), .val (.ref b289), .val (.int (own_nf3 v0 v1 v2)), .val (.int (0 : Int32)), .val (.int (own_nf3 v0 v1 v2)), .val (.int (0 : Int32))] [(.ref b), (.ref b289)])) := fun tq kq => G342 tq (st343 _ kq)
  have G345 : Go p e below A0 (T343.setTop (mkF m 66 #[.val (.ref a), .val (.ref b289), .val (.int (own_nf3 v0 v1 v2)), .val (.int (0 : Int32)), .val (.int (own_nf3 v0 v1 v2)), .val (.int (0 : Int32))] [(.int (0 : Int32)), (.ref b), (.ref b289)])) := fun tq kq => G344 tq (by
    refine XS.iload X343.here hx rfl (hb hby d3_64) rfl ?_
    show Steps p.tables e below (T343.setTop (mkF m 66 #[.val (.ref a), .val (.ref b289), .val (.int (own_nf3 v0 v1 v2)), .val (.int (0 : Int32)), .val (.int (own_nf3 v0 v1 v2)), .val (.int (0 : Int32))] [(.int (0 : Int32)), (.ref b), (.ref b289)])) _
    exact kq)
  obtain ⟨cl346, Ar346, q346, S346, M346, H346, Gf346⟩ := id f300
  have hi347 : ¬ ((0 : Int32) < 0 ∨ cl346.slots.size ≤ ((0 : Int32)).toNatClampNeg) := (inb_of S346 ⟨by decide, by decide⟩)
  have G348 : Go p e below A0 (T343.setTop (mkF m 67 #[.val (.ref a), .val (.ref b289), .val (.int (own_nf3 v0 v1 v2)), .val (.int (0 : Int32)), .val (.int (own_nf3 v0 v1 v2)), .val (.int (0 : Int32))] [(.int v0), (.ref b289)])) := fun tq kq => G345 tq (by
    refine X343.baloadBooleans hx (j := (0 : Int32)) (v := (.int v0)) (by rw [e343]; exact Ar346.1) (State.isArrayOf_alike hZ.alike Ar346.2.1) Ar346.2.2 hi347 (H346.at hi347 rfl) (g := (mkF m 66 #[.val (.ref a), .val (.ref b289), .val (.int (own_nf3 v0 v1 v2)), .val (.int (0 : Int32)), .val (.int (own_nf3 v0 v1 v2)), .val (.int (0 : Int32))] [(.int (0 : Int32)), (.ref b), (.ref b289)])) rfl rfl (hb hby d3_66) _ ?_
    show Steps p.tables e below (T343.setTop (mkF m 67 #[.val (.ref a), .val (.ref b289), .val (.int (own_nf3 v0 v1 v2)), .val (.int (0 : Int32)), .val (.int (own_nf3 v0 v1 v2)), .val (.int (0 : Int32))] [(.int v0), (.ref b289)])) _
    exact kq)
  obtain ⟨x0, y0, z0, hG349, G349⟩ : ∃ (x0 : Int32) (y0 : Int32) (z0 : Int32), (x0 = (own_ix3_0 v0 v1 v2) ∧ y0 = (own_nf1 v0) ∧ z0 = (own_nt3_1 v0 v1 v2)) ∧ Go p e below A0 (T343.setTop (mkF m 82 #[.val (.ref a), .val (.ref b289), .val (.int (own_nf3 v0 v1 v2)), .val (.int y0), .val (.int z0), .val (.int (0 : Int32))] [(.int x0), (.ref b289)])) := by
    by_cases hc350 : v0 = (0 : Int32)
    · have G351 : Go p e below A0 (T343.setTop (mkF m 82 #[.val (.ref a), .val (.ref b289), .val (.int (own_nf3 v0 v1 v2)), .val (.int (1 : Int32)), .val (.int (own_nf3 v0 v1 v2)), .val (.int (0 : Int32))] [(.int (0 : Int32)), (.ref b289)])) := fun tq kq => G348 tq (by
        refine XS.ifYes X343.here hx rfl (pc0 := 67) (pc' := 78) rfl (hb hby d3_67) rfl ((if0 _ _).trans (teq hc350).1) (by decide) (by decide) ?_
        show Steps p.tables e below (T343.setTop (mkF m 78 #[.val (.ref a), .val (.ref b289), .val (.int (own_nf3 v0 v1 v2)), .val (.int (0 : Int32)), .val (.int (own_nf3 v0 v1 v2)), .val (.int (0 : Int32))] [(.ref b289)])) _
        refine XS.iloadN X343.here hx rfl (hb hby d3_78) rfl ?_
        show Steps p.tables e below (T343.setTop (mkF m 79 #[.val (.ref a), .val (.ref b289), .val (.int (own_nf3 v0 v1 v2)), .val (.int (0 : Int32)), .val (.int (own_nf3 v0 v1 v2)), .val (.int (0 : Int32))] [(.int (0 : Int32)), (.ref b289)])) _
        refine XS.iinc X343.here hx rfl (hb hby d3_79) rfl (l' := #[.val (.ref a), .val (.ref b289), .val (.int (own_nf3 v0 v1 v2)), .val (.int ((0 : Int32) + (1 : Int32))), .val (.int (own_nf3 v0 v1 v2)), .val (.int (0 : Int32))]) rfl ?_
        show Steps p.tables e below (T343.setTop (mkF m 82 #[.val (.ref a), .val (.ref b289), .val (.int (own_nf3 v0 v1 v2)), .val (.int ((0 : Int32) + (1 : Int32))), .val (.int (own_nf3 v0 v1 v2)), .val (.int (0 : Int32))] [(.int (0 : Int32)), (.ref b289)])) _
        rw [show ((0 : Int32) + (1 : Int32)) = (1 : Int32) from (by decide : ((0 : Int32) + (1 : Int32)) = (1 : Int32))]
        show Steps p.tables e below (T343.setTop (mkF m 82 #[.val (.ref a), .val (.ref b289), .val (.int (own_nf3 v0 v1 v2)), .val (.int (1 : Int32)), .val (.int (own_nf3 v0 v1 v2)), .val (.int (0 : Int32))] [(.int (0 : Int32)), (.ref b289)])) _
        exact kq)
      exact ⟨(0 : Int32), (1 : Int32), (own_nf3 v0 v1 v2), (by exact ⟨(if_pos hc350).symm, (congrArg (fun q => (0 : Int32) + q) (own_bt hc350)).symm, ((congrArg (fun q => (own_nf3 v0 v1 v2) + q) (own_b0 (fun q => q hc350))).trans (Int32.add_zero _)).symm⟩), G351⟩
    · have G352 : Go p e below A0 (T343.setTop (mkF m 82 #[.val (.ref a), .val (.ref b289), .val (.int (own_nf3 v0 v1 v2)), .val (.int (0 : Int32)), .val (.int ((own_nf3 v0 v1 v2) + (1 : Int32))), .val (.int (0 : Int32))] [(.int (own_nf3 v0 v1 v2)), (.ref b289)])) := fun tq kq => G348 tq (by
        refine XS.ifNo X343.here hx rfl (hb hby d3_67) rfl ((if0 _ _).trans (feq hc350).1) ?_
        show Steps p.tables e below (T343.setTop (mkF m 70 #[.val (.ref a), .val (.ref b289), .val (.int (own_nf3 v0 v1 v2)), .val (.int (0 : Int32)), .val (.int (own_nf3 v0 v1 v2)), .val (.int (0 : Int32))] [(.ref b289)])) _
        refine XS.iload X343.here hx rfl (hb hby d3_70) rfl ?_
        show Steps p.tables e below (T343.setTop (mkF m 72 #[.val (.ref a), .val (.ref b289), .val (.int (own_nf3 v0 v1 v2)), .val (.int (0 : Int32)), .val (.int (own_nf3 v0 v1 v2)), .val (.int (0 : Int32))] [(.int (own_nf3 v0 v1 v2)), (.ref b289)])) _
        refine XS.iinc X343.here hx rfl (hb hby d3_72) rfl (l' := #[.val (.ref a), .val (.ref b289), .val (.int (own_nf3 v0 v1 v2)), .val (.int (0 : Int32)), .val (.int ((own_nf3 v0 v1 v2) + (1 : Int32))), .val (.int (0 : Int32))]) rfl ?_
        show Steps p.tables e below (T343.setTop (mkF m 75 #[.val (.ref a), .val (.ref b289), .val (.int (own_nf3 v0 v1 v2)), .val (.int (0 : Int32)), .val (.int ((own_nf3 v0 v1 v2) + (1 : Int32))), .val (.int (0 : Int32))] [(.int (own_nf3 v0 v1 v2)), (.ref b289)])) _
        refine XS.goto X343.here hx rfl (pc0 := 75) (pc' := 82) rfl (hb hby d3_75) (by decide) (by decide) ?_
        show Steps p.tables e below (T343.setTop (mkF m 82 #[.val (.ref a), .val (.ref b289), .val (.int (own_nf3 v0 v1 v2)), .val (.int (0 : Int32)), .val (.int ((own_nf3 v0 v1 v2) + (1 : Int32))), .val (.int (0 : Int32))] [(.int (own_nf3 v0 v1 v2)), (.ref b289)])) _
        exact kq)
      exact ⟨(own_nf3 v0 v1 v2), (0 : Int32), ((own_nf3 v0 v1 v2) + (1 : Int32)), (by exact ⟨(if_neg hc350).symm, ((congrArg (fun q => (0 : Int32) + q) (own_b0 hc350)).trans (Int32.add_zero _)).symm, (congrArg (fun q => (own_nf3 v0 v1 v2) + q) (own_bt hc350)).symm⟩), G352⟩
  obtain ⟨rfl, rfl, rfl⟩ := hG349
  have G353 : Go p e below A0 (T343.setTop (mkF m 84 #[.val (.ref a), .val (.ref b289), .val (.int (own_nf3 v0 v1 v2)), .val (.int (own_nf1 v0)), .val (.int (own_nt3_1 v0 v1 v2)), .val (.int (0 : Int32))] [(.int (0 : Int32)), (.int (own_ix3_0 v0 v1 v2)), (.ref b289)])) := fun tq kq => G349 tq (by
    refine XS.iload X343.here hx rfl (hb hby d3_82) rfl ?_
    show Steps p.tables e below (T343.setTop (mkF m 84 #[.val (.ref a), .val (.ref b289), .val (.int (own_nf3 v0 v1 v2)), .val (.int (own_nf1 v0)), .val (.int (own_nt3_1 v0 v1 v2)), .val (.int (0 : Int32))] [(.int (0 : Int32)), (.int (own_ix3_0 v0 v1 v2)), (.ref b289)])) _
    exact kq)
  obtain ⟨cl354, Ar354, q354, S354, M354, H354⟩ := id Af0
  have hi355 : ¬ ((own_ix3_0 v0 v1 v2) < 0 ∨ cl354.slots.size ≤ ((own_ix3_0 v0 v1 v2)).toNatClampNeg) := (inb_of S354 (own_idx_3_0 v0 v1 v2 hb0 hb1 hb2))
  obtain ⟨T356, h356, X356, e356, W356, st356⟩ := stI X343 hx hZ e343 Ar354 (j := (own_ix3_0 v0 v1 v2)) hi355 (g := (mkF m 84 #[.val (.ref a), .val (.ref b289), .val (.int (own_nf3 v0 v1 v2)), .val (.int (own_nf1 v0)), .val (.int (own_nt3_1 v0 v1 v2)), .val (.int (0 : Int32))] [(.int (0 : Int32)), (.int (own_ix3_0 v0 v1 v2)), (.ref b289)])) rfl rfl (hb hby d3_84)
  have N356 := Fr.snoc X356 N0 g_b289
  have V356 : Af Z h356 b289 k289 .int (3 : Int32) (fun i => if i = ((own_ix3_0 v0 v1 v2)).toNatClampNeg then (.int (0 : Int32)) else ((own_g3_0 v0 v1 v2)) i) := Af.set Ar354 q354 S354 M354 H354 W356 hi355
  have V356' : Af Z h356 b289 k289 .int (3 : Int32) (own_g3_1 v0 v1 v2) := V356.fn (fun _ _ => rfl)
  have G357 : Go p e below A0 (T356.setTop (mkF m 85 #[.val (.ref a), .val (.ref b289), .val (.int (own_nf3 v0 v1 v2)), .val (.int (own_nf1 v0)), .val (.int (own_nt3_1 v0 v1 v2)), .val (.int (0 : Int32))] [])) := fun tq kq => G353 tq (st356 _ kq)
  have G358 : Go p e below A0 (T356.setTop (mkF m 53 #[.val (.ref a), .val (.ref b289), .val (.int (own_nf3 v0 v1 v2)), .val (.int (own_nf1 v0)), .val (.int (own_nt3_1 v0 v1 v2)), .val (.int (1 : Int32))] [(.ref a), (.int (1 : Int32))])) := fun tq kq => G357 tq (by
    refine XS.iinc X356.here hx rfl (hb hby d3_85) rfl (l' := #[.val (.ref a), .val (.ref b289), .val (.int (own_nf3 v0 v1 v2)), .val (.int (own_nf1 v0)), .val (.int (own_nt3_1 v0 v1 v2)), .val (.int ((0 : Int32) + (1 : Int32)))]) rfl ?_
    show Steps p.tables e below (T356.setTop (mkF m 88 #[.val (.ref a), .val (.ref b289), .val (.int (own_nf3 v0 v1 v2)), .val (.int (own_nf1 v0)), .val (.int (own_nt3_1 v0 v1 v2)), .val (.int ((0 : Int32) + (1 : Int32)))] [])) _
    rw [show ((0 : Int32) + (1 : Int32)) = (1 : Int32) from (by decide : ((0 : Int32) + (1 : Int32)) = (1 : Int32))]
    show Steps p.tables e below (T356.setTop (mkF m 88 #[.val (.ref a), .val (.ref b289), .val (.int (own_nf3 v0 v1 v2)), .val (.int (own_nf1 v0)), .val (.int (own_nt3_1 v0 v1 v2)), .val (.int (1 : Int32))] [])) _
    refine XS.goto X356.here hx rfl (pc0 := 88) (pc' := 50) rfl (hb hby d3_88) (by decide) (by decide) ?_
    show Steps p.tables e below (T356.setTop (mkF m 50 #[.val (.ref a), .val (.ref b289), .val (.int (own_nf3 v0 v1 v2)), .val (.int (own_nf1 v0)), .val (.int (own_nt3_1 v0 v1 v2)), .val (.int (1 : Int32))] [])) _
    refine XS.iload X356.here hx rfl (hb hby d3_50) rfl ?_
    show Steps p.tables e below (T356.setTop (mkF m 52 #[.val (.ref a), .val (.ref b289), .val (.int (own_nf3 v0 v1 v2)), .val (.int (own_nf1 v0)), .val (.int (own_nt3_1 v0 v1 v2)), .val (.int (1 : Int32))] [(.int (1 : Int32))])) _
    refine XS.aloadN X356.here hx rfl (hb hby d3_52) rfl rfl ?_
    show Steps p.tables e below (T356.setTop (mkF m 53 #[.val (.ref a), .val (.ref b289), .val (.int (own_nf3 v0 v1 v2)), .val (.int (own_nf1 v0)), .val (.int (own_nt3_1 v0 v1 v2)), .val (.int (1 : Int32))] [(.ref a), (.int (1 : Int32))])) _
    exact kq)
  have f359 := (f292.other W356 (Or.inl ne_a_b289))
  obtain ⟨T360, X360, e360, st360⟩ := getF X356 hx hZ hown (host := "") (Or.inl (hw _ (List.mem_of_getElem? (i := 28) rfl))) Via.refl e356 f359 (g := (mkF m 53 #[.val (.ref a), .val (.ref b289), .val (.int (own_nf3 v0 v1 v2)), .val (.int (own_nf1 v0)), .val (.int (own_nt3_1 v0 v1 v2)), .val (.int (1 : Int32))] [(.ref a), (.int (1 : Int32))])) rfl rfl (hb hby d3_53)
  have G361 : Go p e below A0 (T360.setTop (mkF m 56 #[.val (.ref a), .val (.ref b289), .val (.int (own_nf3 v0 v1 v2)), .val (.int (own_nf1 v0)), .val (.int (own_nt3_1 v0 v1 v2)), .val (.int (1 : Int32))] [(.int (3 : Int32)), (.int (1 : Int32))])) := fun tq kq => G358 tq (st360 _ kq)
  have G362 : Go p e below A0 (T360.setTop (mkF m 61 #[.val (.ref a), .val (.ref b289), .val (.int (own_nf3 v0 v1 v2)), .val (.int (own_nf1 v0)), .val (.int (own_nt3_1 v0 v1 v2)), .val (.int (1 : Int32))] [(.ref a), (.ref b289)])) := fun tq kq => G361 tq (by
    refine XS.icmpNo X360.here hx rfl (hb hby d3_56) rfl (by decide) ?_
    show Steps p.tables e below (T360.setTop (mkF m 59 #[.val (.ref a), .val (.ref b289), .val (.int (own_nf3 v0 v1 v2)), .val (.int (own_nf1 v0)), .val (.int (own_nt3_1 v0 v1 v2)), .val (.int (1 : Int32))] [])) _
    refine XS.aloadN X360.here hx rfl (hb hby d3_59) rfl rfl ?_
    show Steps p.tables e below (T360.setTop (mkF m 60 #[.val (.ref a), .val (.ref b289), .val (.int (own_nf3 v0 v1 v2)), .val (.int (own_nf1 v0)), .val (.int (own_nt3_1 v0 v1 v2)), .val (.int (1 : Int32))] [(.ref b289)])) _
    refine XS.aloadN X360.here hx rfl (hb hby d3_60) rfl rfl ?_
    show Steps p.tables e below (T360.setTop (mkF m 61 #[.val (.ref a), .val (.ref b289), .val (.int (own_nf3 v0 v1 v2)), .val (.int (own_nf1 v0)), .val (.int (own_nt3_1 v0 v1 v2)), .val (.int (1 : Int32))] [(.ref a), (.ref b289)])) _
    exact kq)
  have f363 := (f296.other W356 (Or.inl ne_a_b289))
  obtain ⟨T364, X364, e364, st364⟩ := getF X360 hx hZ hown (host := "") (Or.inl (hw _ (List.mem_of_getElem? (i := 19) rfl))) Via.refl e360 f363 (g := (mkF m 61 #[.val (.ref a), .val (.ref b289), .val (.int (own_nf3 v0 v1 v2)), .val (.int (own_nf1 v0)), .val (.int (own_nt3_1 v0 v1 v2)), .val (.int (1 : Int32))] [(.ref a), (.ref b289)])) rfl rfl (hb hby d3_61)
  have G365 : Go p e below A0 (T364.setTop (mkF m 64 #[.val (.ref a), .val (.ref b289), .val (.int (own_nf3 v0 v1 v2)), .val (.int (own_nf1 v0)), .val (.int (own_nt3_1 v0 v1 v2)), .val (.int (1 : Int32))] [(.ref b), (.ref b289)])) := fun tq kq => G362 tq (st364 _ kq)
  have G366 : Go p e below A0 (T364.setTop (mkF m 66 #[.val (.ref a), .val (.ref b289), .val (.int (own_nf3 v0 v1 v2)), .val (.int (own_nf1 v0)), .val (.int (own_nt3_1 v0 v1 v2)), .val (.int (1 : Int32))] [(.int (1 : Int32)), (.ref b), (.ref b289)])) := fun tq kq => G365 tq (by
    refine XS.iload X364.here hx rfl (hb hby d3_64) rfl ?_
    show Steps p.tables e below (T364.setTop (mkF m 66 #[.val (.ref a), .val (.ref b289), .val (.int (own_nf3 v0 v1 v2)), .val (.int (own_nf1 v0)), .val (.int (own_nt3_1 v0 v1 v2)), .val (.int (1 : Int32))] [(.int (1 : Int32)), (.ref b), (.ref b289)])) _
    exact kq)
  have f367 := (f300.other W356 ne_b_b289)
  obtain ⟨cl368, Ar368, q368, S368, M368, H368, Gf368⟩ := id f367
  have hi369 : ¬ ((1 : Int32) < 0 ∨ cl368.slots.size ≤ ((1 : Int32)).toNatClampNeg) := (inb_of S368 ⟨by decide, by decide⟩)
  have G370 : Go p e below A0 (T364.setTop (mkF m 67 #[.val (.ref a), .val (.ref b289), .val (.int (own_nf3 v0 v1 v2)), .val (.int (own_nf1 v0)), .val (.int (own_nt3_1 v0 v1 v2)), .val (.int (1 : Int32))] [(.int v1), (.ref b289)])) := fun tq kq => G366 tq (by
    refine X364.baloadBooleans hx (j := (1 : Int32)) (v := (.int v1)) (by rw [e364]; exact Ar368.1) (State.isArrayOf_alike hZ.alike Ar368.2.1) Ar368.2.2 hi369 (H368.at hi369 rfl) (g := (mkF m 66 #[.val (.ref a), .val (.ref b289), .val (.int (own_nf3 v0 v1 v2)), .val (.int (own_nf1 v0)), .val (.int (own_nt3_1 v0 v1 v2)), .val (.int (1 : Int32))] [(.int (1 : Int32)), (.ref b), (.ref b289)])) rfl rfl (hb hby d3_66) _ ?_
    show Steps p.tables e below (T364.setTop (mkF m 67 #[.val (.ref a), .val (.ref b289), .val (.int (own_nf3 v0 v1 v2)), .val (.int (own_nf1 v0)), .val (.int (own_nt3_1 v0 v1 v2)), .val (.int (1 : Int32))] [(.int v1), (.ref b289)])) _
    exact kq)
  obtain ⟨x1, y1, z1, hG371, G371⟩ : ∃ (x1 : Int32) (y1 : Int32) (z1 : Int32), (x1 = (own_ix3_1 v0 v1 v2) ∧ y1 = (own_nf2 v0 v1) ∧ z1 = (own_nt3_2 v0 v1 v2)) ∧ Go p e below A0 (T364.setTop (mkF m 82 #[.val (.ref a), .val (.ref b289), .val (.int (own_nf3 v0 v1 v2)), .val (.int y1), .val (.int z1), .val (.int (1 : Int32))] [(.int x1), (.ref b289)])) := by
    by_cases hc372 : v1 = (0 : Int32)
    · have G373 : Go p e below A0 (T364.setTop (mkF m 82 #[.val (.ref a), .val (.ref b289), .val (.int (own_nf3 v0 v1 v2)), .val (.int ((own_nf1 v0) + (1 : Int32))), .val (.int (own_nt3_1 v0 v1 v2)), .val (.int (1 : Int32))] [(.int (own_nf1 v0)), (.ref b289)])) := fun tq kq => G370 tq (by
        refine XS.ifYes X364.here hx rfl (pc0 := 67) (pc' := 78) rfl (hb hby d3_67) rfl ((if0 _ _).trans (teq hc372).1) (by decide) (by decide) ?_
        show Steps p.tables e below (T364.setTop (mkF m 78 #[.val (.ref a), .val (.ref b289), .val (.int (own_nf3 v0 v1 v2)), .val (.int (own_nf1 v0)), .val (.int (own_nt3_1 v0 v1 v2)), .val (.int (1 : Int32))] [(.ref b289)])) _
        refine XS.iloadN X364.here hx rfl (hb hby d3_78) rfl ?_
        show Steps p.tables e below (T364.setTop (mkF m 79 #[.val (.ref a), .val (.ref b289), .val (.int (own_nf3 v0 v1 v2)), .val (.int (own_nf1 v0)), .val (.int (own_nt3_1 v0 v1 v2)), .val (.int (1 : Int32))] [(.int (own_nf1 v0)), (.ref b289)])) _
        refine XS.iinc X364.here hx rfl (hb hby d3_79) rfl (l' := #[.val (.ref a), .val (.ref b289), .val (.int (own_nf3 v0 v1 v2)), .val (.int ((own_nf1 v0) + (1 : Int32))), .val (.int (own_nt3_1 v0 v1 v2)), .val (.int (1 : Int32))]) rfl ?_
        show Steps p.tables e below (T364.setTop (mkF m 82 #[.val (.ref a), .val (.ref b289), .val (.int (own_nf3 v0 v1 v2)), .val (.int ((own_nf1 v0) + (1 : Int32))), .val (.int (own_nt3_1 v0 v1 v2)), .val (.int (1 : Int32))] [(.int (own_nf1 v0)), (.ref b289)])) _
        exact kq)
      exact ⟨(own_nf1 v0), ((own_nf1 v0) + (1 : Int32)), (own_nt3_1 v0 v1 v2), (by exact ⟨(if_pos hc372).symm, (congrArg (fun q => (own_nf1 v0) + q) (own_bt hc372)).symm, ((congrArg (fun q => (own_nt3_1 v0 v1 v2) + q) (own_b0 (fun q => q hc372))).trans (Int32.add_zero _)).symm⟩), G373⟩
    · have G374 : Go p e below A0 (T364.setTop (mkF m 82 #[.val (.ref a), .val (.ref b289), .val (.int (own_nf3 v0 v1 v2)), .val (.int (own_nf1 v0)), .val (.int ((own_nt3_1 v0 v1 v2) + (1 : Int32))), .val (.int (1 : Int32))] [(.int (own_nt3_1 v0 v1 v2)), (.ref b289)])) := fun tq kq => G370 tq (by
        refine XS.ifNo X364.here hx rfl (hb hby d3_67) rfl ((if0 _ _).trans (feq hc372).1) ?_
        show Steps p.tables e below (T364.setTop (mkF m 70 #[.val (.ref a), .val (.ref b289), .val (.int (own_nf3 v0 v1 v2)), .val (.int (own_nf1 v0)), .val (.int (own_nt3_1 v0 v1 v2)), .val (.int (1 : Int32))] [(.ref b289)])) _
        refine XS.iload X364.here hx rfl (hb hby d3_70) rfl ?_
        show Steps p.tables e below (T364.setTop (mkF m 72 #[.val (.ref a), .val (.ref b289), .val (.int (own_nf3 v0 v1 v2)), .val (.int (own_nf1 v0)), .val (.int (own_nt3_1 v0 v1 v2)), .val (.int (1 : Int32))] [(.int (own_nt3_1 v0 v1 v2)), (.ref b289)])) _
        refine XS.iinc X364.here hx rfl (hb hby d3_72) rfl (l' := #[.val (.ref a), .val (.ref b289), .val (.int (own_nf3 v0 v1 v2)), .val (.int (own_nf1 v0)), .val (.int ((own_nt3_1 v0 v1 v2) + (1 : Int32))), .val (.int (1 : Int32))]) rfl ?_
        show Steps p.tables e below (T364.setTop (mkF m 75 #[.val (.ref a), .val (.ref b289), .val (.int (own_nf3 v0 v1 v2)), .val (.int (own_nf1 v0)), .val (.int ((own_nt3_1 v0 v1 v2) + (1 : Int32))), .val (.int (1 : Int32))] [(.int (own_nt3_1 v0 v1 v2)), (.ref b289)])) _
        refine XS.goto X364.here hx rfl (pc0 := 75) (pc' := 82) rfl (hb hby d3_75) (by decide) (by decide) ?_
        show Steps p.tables e below (T364.setTop (mkF m 82 #[.val (.ref a), .val (.ref b289), .val (.int (own_nf3 v0 v1 v2)), .val (.int (own_nf1 v0)), .val (.int ((own_nt3_1 v0 v1 v2) + (1 : Int32))), .val (.int (1 : Int32))] [(.int (own_nt3_1 v0 v1 v2)), (.ref b289)])) _
        exact kq)
      exact ⟨(own_nt3_1 v0 v1 v2), (own_nf1 v0), ((own_nt3_1 v0 v1 v2) + (1 : Int32)), (by exact ⟨(if_neg hc372).symm, ((congrArg (fun q => (own_nf1 v0) + q) (own_b0 hc372)).trans (Int32.add_zero _)).symm, (congrArg (fun q => (own_nt3_1 v0 v1 v2) + q) (own_bt hc372)).symm⟩), G374⟩
  obtain ⟨rfl, rfl, rfl⟩ := hG371
  have G375 : Go p e below A0 (T364.setTop (mkF m 84 #[.val (.ref a), .val (.ref b289), .val (.int (own_nf3 v0 v1 v2)), .val (.int (own_nf2 v0 v1)), .val (.int (own_nt3_2 v0 v1 v2)), .val (.int (1 : Int32))] [(.int (1 : Int32)), (.int (own_ix3_1 v0 v1 v2)), (.ref b289)])) := fun tq kq => G371 tq (by
    refine XS.iload X364.here hx rfl (hb hby d3_82) rfl ?_
    show Steps p.tables e below (T364.setTop (mkF m 84 #[.val (.ref a), .val (.ref b289), .val (.int (own_nf3 v0 v1 v2)), .val (.int (own_nf2 v0 v1)), .val (.int (own_nt3_2 v0 v1 v2)), .val (.int (1 : Int32))] [(.int (1 : Int32)), (.int (own_ix3_1 v0 v1 v2)), (.ref b289)])) _
    exact kq)
  obtain ⟨cl376, Ar376, q376, S376, M376, H376⟩ := id V356'
  have hi377 : ¬ ((own_ix3_1 v0 v1 v2) < 0 ∨ cl376.slots.size ≤ ((own_ix3_1 v0 v1 v2)).toNatClampNeg) := (inb_of S376 (own_idx_3_1 v0 v1 v2 hb0 hb1 hb2))
  obtain ⟨T378, h378, X378, e378, W378, st378⟩ := stI X364 hx hZ e364 Ar376 (j := (own_ix3_1 v0 v1 v2)) hi377 (g := (mkF m 84 #[.val (.ref a), .val (.ref b289), .val (.int (own_nf3 v0 v1 v2)), .val (.int (own_nf2 v0 v1)), .val (.int (own_nt3_2 v0 v1 v2)), .val (.int (1 : Int32))] [(.int (1 : Int32)), (.int (own_ix3_1 v0 v1 v2)), (.ref b289)])) rfl rfl (hb hby d3_84)
  have N378 := Fr.snoc X378 N356 g_b289
  have V378 : Af Z h378 b289 k289 .int (3 : Int32) (fun i => if i = ((own_ix3_1 v0 v1 v2)).toNatClampNeg then (.int (1 : Int32)) else ((own_g3_1 v0 v1 v2)) i) := Af.set Ar376 q376 S376 M376 H376 W378 hi377
  have V378' : Af Z h378 b289 k289 .int (3 : Int32) (own_g3_2 v0 v1 v2) := V378.fn (fun _ _ => rfl)
  have G379 : Go p e below A0 (T378.setTop (mkF m 85 #[.val (.ref a), .val (.ref b289), .val (.int (own_nf3 v0 v1 v2)), .val (.int (own_nf2 v0 v1)), .val (.int (own_nt3_2 v0 v1 v2)), .val (.int (1 : Int32))] [])) := fun tq kq => G375 tq (st378 _ kq)
  have G380 : Go p e below A0 (T378.setTop (mkF m 53 #[.val (.ref a), .val (.ref b289), .val (.int (own_nf3 v0 v1 v2)), .val (.int (own_nf2 v0 v1)), .val (.int (own_nt3_2 v0 v1 v2)), .val (.int (2 : Int32))] [(.ref a), (.int (2 : Int32))])) := fun tq kq => G379 tq (by
    refine XS.iinc X378.here hx rfl (hb hby d3_85) rfl (l' := #[.val (.ref a), .val (.ref b289), .val (.int (own_nf3 v0 v1 v2)), .val (.int (own_nf2 v0 v1)), .val (.int (own_nt3_2 v0 v1 v2)), .val (.int ((1 : Int32) + (1 : Int32)))]) rfl ?_
    show Steps p.tables e below (T378.setTop (mkF m 88 #[.val (.ref a), .val (.ref b289), .val (.int (own_nf3 v0 v1 v2)), .val (.int (own_nf2 v0 v1)), .val (.int (own_nt3_2 v0 v1 v2)), .val (.int ((1 : Int32) + (1 : Int32)))] [])) _
    rw [show ((1 : Int32) + (1 : Int32)) = (2 : Int32) from (by decide : ((1 : Int32) + (1 : Int32)) = (2 : Int32))]
    show Steps p.tables e below (T378.setTop (mkF m 88 #[.val (.ref a), .val (.ref b289), .val (.int (own_nf3 v0 v1 v2)), .val (.int (own_nf2 v0 v1)), .val (.int (own_nt3_2 v0 v1 v2)), .val (.int (2 : Int32))] [])) _
    refine XS.goto X378.here hx rfl (pc0 := 88) (pc' := 50) rfl (hb hby d3_88) (by decide) (by decide) ?_
    show Steps p.tables e below (T378.setTop (mkF m 50 #[.val (.ref a), .val (.ref b289), .val (.int (own_nf3 v0 v1 v2)), .val (.int (own_nf2 v0 v1)), .val (.int (own_nt3_2 v0 v1 v2)), .val (.int (2 : Int32))] [])) _
    refine XS.iload X378.here hx rfl (hb hby d3_50) rfl ?_
    show Steps p.tables e below (T378.setTop (mkF m 52 #[.val (.ref a), .val (.ref b289), .val (.int (own_nf3 v0 v1 v2)), .val (.int (own_nf2 v0 v1)), .val (.int (own_nt3_2 v0 v1 v2)), .val (.int (2 : Int32))] [(.int (2 : Int32))])) _
    refine XS.aloadN X378.here hx rfl (hb hby d3_52) rfl rfl ?_
    show Steps p.tables e below (T378.setTop (mkF m 53 #[.val (.ref a), .val (.ref b289), .val (.int (own_nf3 v0 v1 v2)), .val (.int (own_nf2 v0 v1)), .val (.int (own_nt3_2 v0 v1 v2)), .val (.int (2 : Int32))] [(.ref a), (.int (2 : Int32))])) _
    exact kq)
  have f381 := (f359.other W378 (Or.inl ne_a_b289))
  obtain ⟨T382, X382, e382, st382⟩ := getF X378 hx hZ hown (host := "") (Or.inl (hw _ (List.mem_of_getElem? (i := 28) rfl))) Via.refl e378 f381 (g := (mkF m 53 #[.val (.ref a), .val (.ref b289), .val (.int (own_nf3 v0 v1 v2)), .val (.int (own_nf2 v0 v1)), .val (.int (own_nt3_2 v0 v1 v2)), .val (.int (2 : Int32))] [(.ref a), (.int (2 : Int32))])) rfl rfl (hb hby d3_53)
  have G383 : Go p e below A0 (T382.setTop (mkF m 56 #[.val (.ref a), .val (.ref b289), .val (.int (own_nf3 v0 v1 v2)), .val (.int (own_nf2 v0 v1)), .val (.int (own_nt3_2 v0 v1 v2)), .val (.int (2 : Int32))] [(.int (3 : Int32)), (.int (2 : Int32))])) := fun tq kq => G380 tq (st382 _ kq)
  have G384 : Go p e below A0 (T382.setTop (mkF m 61 #[.val (.ref a), .val (.ref b289), .val (.int (own_nf3 v0 v1 v2)), .val (.int (own_nf2 v0 v1)), .val (.int (own_nt3_2 v0 v1 v2)), .val (.int (2 : Int32))] [(.ref a), (.ref b289)])) := fun tq kq => G383 tq (by
    refine XS.icmpNo X382.here hx rfl (hb hby d3_56) rfl (by decide) ?_
    show Steps p.tables e below (T382.setTop (mkF m 59 #[.val (.ref a), .val (.ref b289), .val (.int (own_nf3 v0 v1 v2)), .val (.int (own_nf2 v0 v1)), .val (.int (own_nt3_2 v0 v1 v2)), .val (.int (2 : Int32))] [])) _
    refine XS.aloadN X382.here hx rfl (hb hby d3_59) rfl rfl ?_
    show Steps p.tables e below (T382.setTop (mkF m 60 #[.val (.ref a), .val (.ref b289), .val (.int (own_nf3 v0 v1 v2)), .val (.int (own_nf2 v0 v1)), .val (.int (own_nt3_2 v0 v1 v2)), .val (.int (2 : Int32))] [(.ref b289)])) _
    refine XS.aloadN X382.here hx rfl (hb hby d3_60) rfl rfl ?_
    show Steps p.tables e below (T382.setTop (mkF m 61 #[.val (.ref a), .val (.ref b289), .val (.int (own_nf3 v0 v1 v2)), .val (.int (own_nf2 v0 v1)), .val (.int (own_nt3_2 v0 v1 v2)), .val (.int (2 : Int32))] [(.ref a), (.ref b289)])) _
    exact kq)
  have f385 := (f363.other W378 (Or.inl ne_a_b289))
  obtain ⟨T386, X386, e386, st386⟩ := getF X382 hx hZ hown (host := "") (Or.inl (hw _ (List.mem_of_getElem? (i := 19) rfl))) Via.refl e382 f385 (g := (mkF m 61 #[.val (.ref a), .val (.ref b289), .val (.int (own_nf3 v0 v1 v2)), .val (.int (own_nf2 v0 v1)), .val (.int (own_nt3_2 v0 v1 v2)), .val (.int (2 : Int32))] [(.ref a), (.ref b289)])) rfl rfl (hb hby d3_61)
  have G387 : Go p e below A0 (T386.setTop (mkF m 64 #[.val (.ref a), .val (.ref b289), .val (.int (own_nf3 v0 v1 v2)), .val (.int (own_nf2 v0 v1)), .val (.int (own_nt3_2 v0 v1 v2)), .val (.int (2 : Int32))] [(.ref b), (.ref b289)])) := fun tq kq => G384 tq (st386 _ kq)
  have G388 : Go p e below A0 (T386.setTop (mkF m 66 #[.val (.ref a), .val (.ref b289), .val (.int (own_nf3 v0 v1 v2)), .val (.int (own_nf2 v0 v1)), .val (.int (own_nt3_2 v0 v1 v2)), .val (.int (2 : Int32))] [(.int (2 : Int32)), (.ref b), (.ref b289)])) := fun tq kq => G387 tq (by
    refine XS.iload X386.here hx rfl (hb hby d3_64) rfl ?_
    show Steps p.tables e below (T386.setTop (mkF m 66 #[.val (.ref a), .val (.ref b289), .val (.int (own_nf3 v0 v1 v2)), .val (.int (own_nf2 v0 v1)), .val (.int (own_nt3_2 v0 v1 v2)), .val (.int (2 : Int32))] [(.int (2 : Int32)), (.ref b), (.ref b289)])) _
    exact kq)
  have f389 := (f367.other W378 ne_b_b289)
  obtain ⟨cl390, Ar390, q390, S390, M390, H390, Gf390⟩ := id f389
  have hi391 : ¬ ((2 : Int32) < 0 ∨ cl390.slots.size ≤ ((2 : Int32)).toNatClampNeg) := (inb_of S390 ⟨by decide, by decide⟩)
  have G392 : Go p e below A0 (T386.setTop (mkF m 67 #[.val (.ref a), .val (.ref b289), .val (.int (own_nf3 v0 v1 v2)), .val (.int (own_nf2 v0 v1)), .val (.int (own_nt3_2 v0 v1 v2)), .val (.int (2 : Int32))] [(.int v2), (.ref b289)])) := fun tq kq => G388 tq (by
    refine X386.baloadBooleans hx (j := (2 : Int32)) (v := (.int v2)) (by rw [e386]; exact Ar390.1) (State.isArrayOf_alike hZ.alike Ar390.2.1) Ar390.2.2 hi391 (H390.at hi391 rfl) (g := (mkF m 66 #[.val (.ref a), .val (.ref b289), .val (.int (own_nf3 v0 v1 v2)), .val (.int (own_nf2 v0 v1)), .val (.int (own_nt3_2 v0 v1 v2)), .val (.int (2 : Int32))] [(.int (2 : Int32)), (.ref b), (.ref b289)])) rfl rfl (hb hby d3_66) _ ?_
    show Steps p.tables e below (T386.setTop (mkF m 67 #[.val (.ref a), .val (.ref b289), .val (.int (own_nf3 v0 v1 v2)), .val (.int (own_nf2 v0 v1)), .val (.int (own_nt3_2 v0 v1 v2)), .val (.int (2 : Int32))] [(.int v2), (.ref b289)])) _
    exact kq)
  obtain ⟨x2, y2, z2, hG393, G393⟩ : ∃ (x2 : Int32) (y2 : Int32) (z2 : Int32), (x2 = (own_ix3_2 v0 v1 v2) ∧ y2 = (own_nf3 v0 v1 v2) ∧ z2 = (own_nt3_3 v0 v1 v2)) ∧ Go p e below A0 (T386.setTop (mkF m 82 #[.val (.ref a), .val (.ref b289), .val (.int (own_nf3 v0 v1 v2)), .val (.int y2), .val (.int z2), .val (.int (2 : Int32))] [(.int x2), (.ref b289)])) := by
    by_cases hc394 : v2 = (0 : Int32)
    · have G395 : Go p e below A0 (T386.setTop (mkF m 82 #[.val (.ref a), .val (.ref b289), .val (.int (own_nf3 v0 v1 v2)), .val (.int ((own_nf2 v0 v1) + (1 : Int32))), .val (.int (own_nt3_2 v0 v1 v2)), .val (.int (2 : Int32))] [(.int (own_nf2 v0 v1)), (.ref b289)])) := fun tq kq => G392 tq (by
        refine XS.ifYes X386.here hx rfl (pc0 := 67) (pc' := 78) rfl (hb hby d3_67) rfl ((if0 _ _).trans (teq hc394).1) (by decide) (by decide) ?_
        show Steps p.tables e below (T386.setTop (mkF m 78 #[.val (.ref a), .val (.ref b289), .val (.int (own_nf3 v0 v1 v2)), .val (.int (own_nf2 v0 v1)), .val (.int (own_nt3_2 v0 v1 v2)), .val (.int (2 : Int32))] [(.ref b289)])) _
        refine XS.iloadN X386.here hx rfl (hb hby d3_78) rfl ?_
        show Steps p.tables e below (T386.setTop (mkF m 79 #[.val (.ref a), .val (.ref b289), .val (.int (own_nf3 v0 v1 v2)), .val (.int (own_nf2 v0 v1)), .val (.int (own_nt3_2 v0 v1 v2)), .val (.int (2 : Int32))] [(.int (own_nf2 v0 v1)), (.ref b289)])) _
        refine XS.iinc X386.here hx rfl (hb hby d3_79) rfl (l' := #[.val (.ref a), .val (.ref b289), .val (.int (own_nf3 v0 v1 v2)), .val (.int ((own_nf2 v0 v1) + (1 : Int32))), .val (.int (own_nt3_2 v0 v1 v2)), .val (.int (2 : Int32))]) rfl ?_
        show Steps p.tables e below (T386.setTop (mkF m 82 #[.val (.ref a), .val (.ref b289), .val (.int (own_nf3 v0 v1 v2)), .val (.int ((own_nf2 v0 v1) + (1 : Int32))), .val (.int (own_nt3_2 v0 v1 v2)), .val (.int (2 : Int32))] [(.int (own_nf2 v0 v1)), (.ref b289)])) _
        exact kq)
      exact ⟨(own_nf2 v0 v1), ((own_nf2 v0 v1) + (1 : Int32)), (own_nt3_2 v0 v1 v2), (by exact ⟨(if_pos hc394).symm, (congrArg (fun q => (own_nf2 v0 v1) + q) (own_bt hc394)).symm, ((congrArg (fun q => (own_nt3_2 v0 v1 v2) + q) (own_b0 (fun q => q hc394))).trans (Int32.add_zero _)).symm⟩), G395⟩
    · have G396 : Go p e below A0 (T386.setTop (mkF m 82 #[.val (.ref a), .val (.ref b289), .val (.int (own_nf3 v0 v1 v2)), .val (.int (own_nf2 v0 v1)), .val (.int ((own_nt3_2 v0 v1 v2) + (1 : Int32))), .val (.int (2 : Int32))] [(.int (own_nt3_2 v0 v1 v2)), (.ref b289)])) := fun tq kq => G392 tq (by
        refine XS.ifNo X386.here hx rfl (hb hby d3_67) rfl ((if0 _ _).trans (feq hc394).1) ?_
        show Steps p.tables e below (T386.setTop (mkF m 70 #[.val (.ref a), .val (.ref b289), .val (.int (own_nf3 v0 v1 v2)), .val (.int (own_nf2 v0 v1)), .val (.int (own_nt3_2 v0 v1 v2)), .val (.int (2 : Int32))] [(.ref b289)])) _
        refine XS.iload X386.here hx rfl (hb hby d3_70) rfl ?_
        show Steps p.tables e below (T386.setTop (mkF m 72 #[.val (.ref a), .val (.ref b289), .val (.int (own_nf3 v0 v1 v2)), .val (.int (own_nf2 v0 v1)), .val (.int (own_nt3_2 v0 v1 v2)), .val (.int (2 : Int32))] [(.int (own_nt3_2 v0 v1 v2)), (.ref b289)])) _
        refine XS.iinc X386.here hx rfl (hb hby d3_72) rfl (l' := #[.val (.ref a), .val (.ref b289), .val (.int (own_nf3 v0 v1 v2)), .val (.int (own_nf2 v0 v1)), .val (.int ((own_nt3_2 v0 v1 v2) + (1 : Int32))), .val (.int (2 : Int32))]) rfl ?_
        show Steps p.tables e below (T386.setTop (mkF m 75 #[.val (.ref a), .val (.ref b289), .val (.int (own_nf3 v0 v1 v2)), .val (.int (own_nf2 v0 v1)), .val (.int ((own_nt3_2 v0 v1 v2) + (1 : Int32))), .val (.int (2 : Int32))] [(.int (own_nt3_2 v0 v1 v2)), (.ref b289)])) _
        refine XS.goto X386.here hx rfl (pc0 := 75) (pc' := 82) rfl (hb hby d3_75) (by decide) (by decide) ?_
        show Steps p.tables e below (T386.setTop (mkF m 82 #[.val (.ref a), .val (.ref b289), .val (.int (own_nf3 v0 v1 v2)), .val (.int (own_nf2 v0 v1)), .val (.int ((own_nt3_2 v0 v1 v2) + (1 : Int32))), .val (.int (2 : Int32))] [(.int (own_nt3_2 v0 v1 v2)), (.ref b289)])) _
        exact kq)
      exact ⟨(own_nt3_2 v0 v1 v2), (own_nf2 v0 v1), ((own_nt3_2 v0 v1 v2) + (1 : Int32)), (by exact ⟨(if_neg hc394).symm, ((congrArg (fun q => (own_nf2 v0 v1) + q) (own_b0 hc394)).trans (Int32.add_zero _)).symm, (congrArg (fun q => (own_nt3_2 v0 v1 v2) + q) (own_bt hc394)).symm⟩), G396⟩
  obtain ⟨rfl, rfl, rfl⟩ := hG393
  have G397 : Go p e below A0 (T386.setTop (mkF m 84 #[.val (.ref a), .val (.ref b289), .val (.int (own_nf3 v0 v1 v2)), .val (.int (own_nf3 v0 v1 v2)), .val (.int (own_nt3_3 v0 v1 v2)), .val (.int (2 : Int32))] [(.int (2 : Int32)), (.int (own_ix3_2 v0 v1 v2)), (.ref b289)])) := fun tq kq => G393 tq (by
    refine XS.iload X386.here hx rfl (hb hby d3_82) rfl ?_
    show Steps p.tables e below (T386.setTop (mkF m 84 #[.val (.ref a), .val (.ref b289), .val (.int (own_nf3 v0 v1 v2)), .val (.int (own_nf3 v0 v1 v2)), .val (.int (own_nt3_3 v0 v1 v2)), .val (.int (2 : Int32))] [(.int (2 : Int32)), (.int (own_ix3_2 v0 v1 v2)), (.ref b289)])) _
    exact kq)
  obtain ⟨cl398, Ar398, q398, S398, M398, H398⟩ := id V378'
  have hi399 : ¬ ((own_ix3_2 v0 v1 v2) < 0 ∨ cl398.slots.size ≤ ((own_ix3_2 v0 v1 v2)).toNatClampNeg) := (inb_of S398 (own_idx_3_2 v0 v1 v2 hb0 hb1 hb2))
  obtain ⟨T400, h400, X400, e400, W400, st400⟩ := stI X386 hx hZ e386 Ar398 (j := (own_ix3_2 v0 v1 v2)) hi399 (g := (mkF m 84 #[.val (.ref a), .val (.ref b289), .val (.int (own_nf3 v0 v1 v2)), .val (.int (own_nf3 v0 v1 v2)), .val (.int (own_nt3_3 v0 v1 v2)), .val (.int (2 : Int32))] [(.int (2 : Int32)), (.int (own_ix3_2 v0 v1 v2)), (.ref b289)])) rfl rfl (hb hby d3_84)
  have N400 := Fr.snoc X400 N378 g_b289
  have V400 : Af Z h400 b289 k289 .int (3 : Int32) (fun i => if i = ((own_ix3_2 v0 v1 v2)).toNatClampNeg then (.int (2 : Int32)) else ((own_g3_2 v0 v1 v2)) i) := Af.set Ar398 q398 S398 M398 H398 W400 hi399
  have V400' : Af Z h400 b289 k289 .int (3 : Int32) (own_g3_3 v0 v1 v2) := V400.fn (fun _ _ => rfl)
  have G401 : Go p e below A0 (T400.setTop (mkF m 85 #[.val (.ref a), .val (.ref b289), .val (.int (own_nf3 v0 v1 v2)), .val (.int (own_nf3 v0 v1 v2)), .val (.int (own_nt3_3 v0 v1 v2)), .val (.int (2 : Int32))] [])) := fun tq kq => G397 tq (st400 _ kq)
  have G402 : Go p e below A0 (T400.setTop (mkF m 53 #[.val (.ref a), .val (.ref b289), .val (.int (own_nf3 v0 v1 v2)), .val (.int (own_nf3 v0 v1 v2)), .val (.int (own_nt3_3 v0 v1 v2)), .val (.int (3 : Int32))] [(.ref a), (.int (3 : Int32))])) := fun tq kq => G401 tq (by
    refine XS.iinc X400.here hx rfl (hb hby d3_85) rfl (l' := #[.val (.ref a), .val (.ref b289), .val (.int (own_nf3 v0 v1 v2)), .val (.int (own_nf3 v0 v1 v2)), .val (.int (own_nt3_3 v0 v1 v2)), .val (.int ((2 : Int32) + (1 : Int32)))]) rfl ?_
    show Steps p.tables e below (T400.setTop (mkF m 88 #[.val (.ref a), .val (.ref b289), .val (.int (own_nf3 v0 v1 v2)), .val (.int (own_nf3 v0 v1 v2)), .val (.int (own_nt3_3 v0 v1 v2)), .val (.int ((2 : Int32) + (1 : Int32)))] [])) _
    rw [show ((2 : Int32) + (1 : Int32)) = (3 : Int32) from (by decide : ((2 : Int32) + (1 : Int32)) = (3 : Int32))]
    show Steps p.tables e below (T400.setTop (mkF m 88 #[.val (.ref a), .val (.ref b289), .val (.int (own_nf3 v0 v1 v2)), .val (.int (own_nf3 v0 v1 v2)), .val (.int (own_nt3_3 v0 v1 v2)), .val (.int (3 : Int32))] [])) _
    refine XS.goto X400.here hx rfl (pc0 := 88) (pc' := 50) rfl (hb hby d3_88) (by decide) (by decide) ?_
    show Steps p.tables e below (T400.setTop (mkF m 50 #[.val (.ref a), .val (.ref b289), .val (.int (own_nf3 v0 v1 v2)), .val (.int (own_nf3 v0 v1 v2)), .val (.int (own_nt3_3 v0 v1 v2)), .val (.int (3 : Int32))] [])) _
    refine XS.iload X400.here hx rfl (hb hby d3_50) rfl ?_
    show Steps p.tables e below (T400.setTop (mkF m 52 #[.val (.ref a), .val (.ref b289), .val (.int (own_nf3 v0 v1 v2)), .val (.int (own_nf3 v0 v1 v2)), .val (.int (own_nt3_3 v0 v1 v2)), .val (.int (3 : Int32))] [(.int (3 : Int32))])) _
    refine XS.aloadN X400.here hx rfl (hb hby d3_52) rfl rfl ?_
    show Steps p.tables e below (T400.setTop (mkF m 53 #[.val (.ref a), .val (.ref b289), .val (.int (own_nf3 v0 v1 v2)), .val (.int (own_nf3 v0 v1 v2)), .val (.int (own_nt3_3 v0 v1 v2)), .val (.int (3 : Int32))] [(.ref a), (.int (3 : Int32))])) _
    exact kq)
  have f403 := (f381.other W400 (Or.inl ne_a_b289))
  obtain ⟨T404, X404, e404, st404⟩ := getF X400 hx hZ hown (host := "") (Or.inl (hw _ (List.mem_of_getElem? (i := 28) rfl))) Via.refl e400 f403 (g := (mkF m 53 #[.val (.ref a), .val (.ref b289), .val (.int (own_nf3 v0 v1 v2)), .val (.int (own_nf3 v0 v1 v2)), .val (.int (own_nt3_3 v0 v1 v2)), .val (.int (3 : Int32))] [(.ref a), (.int (3 : Int32))])) rfl rfl (hb hby d3_53)
  have G405 : Go p e below A0 (T404.setTop (mkF m 56 #[.val (.ref a), .val (.ref b289), .val (.int (own_nf3 v0 v1 v2)), .val (.int (own_nf3 v0 v1 v2)), .val (.int (own_nt3_3 v0 v1 v2)), .val (.int (3 : Int32))] [(.int (3 : Int32)), (.int (3 : Int32))])) := fun tq kq => G402 tq (st404 _ kq)
  have G406 : Go p e below A0 (T404.setTop (mkF m 92 #[.val (.ref a), .val (.ref b289), .val (.int (own_nf3 v0 v1 v2)), .val (.int (own_nf3 v0 v1 v2)), .val (.int (own_nt3_3 v0 v1 v2)), .val (.int (3 : Int32))] [(.ref b289)])) := fun tq kq => G405 tq (by
    refine XS.icmpYes X404.here hx rfl (pc0 := 56) (pc' := 91) rfl (hb hby d3_56) rfl (by decide) (by decide) (by decide) ?_
    show Steps p.tables e below (T404.setTop (mkF m 91 #[.val (.ref a), .val (.ref b289), .val (.int (own_nf3 v0 v1 v2)), .val (.int (own_nf3 v0 v1 v2)), .val (.int (own_nt3_3 v0 v1 v2)), .val (.int (3 : Int32))] [])) _
    refine XS.aloadN X404.here hx rfl (hb hby d3_91) rfl rfl ?_
    show Steps p.tables e below (T404.setTop (mkF m 92 #[.val (.ref a), .val (.ref b289), .val (.int (own_nf3 v0 v1 v2)), .val (.int (own_nf3 v0 v1 v2)), .val (.int (own_nt3_3 v0 v1 v2)), .val (.int (3 : Int32))] [(.ref b289)])) _
    exact kq)
  obtain ⟨fs, hr, hrun, hended, hW, hsame⟩ := X404.leave (v := some (.ref b289)) (fun h => by rw [Bd.returns] at h; cases h)
  refine ⟨_, _, (by rw [← hA0]; exact G406 _ (retOut X404 hx (t := (.array .int)) Bd.returns rfl (Or.inr (Or.inr (Or.inr (Or.inr ⟨rfl, rfl, rfl⟩)))) (hb hby d3_92) hr)), hrun, hended, _, _, rfl, ?_, ⟨_, rfl⟩, hW, hsame.mono (by decide) (by decide)⟩
  show Qo3 Z v0 v1 v2 h0 n0 _ T404.heap _
  rw [e404]
  exact ⟨_, _, rfl, N400, (((((Keep.refl h0 []).ext E289).wr W356 (Or.inr sz_b289)).wr W378 (Or.inr sz_b289)).wr W400 (Or.inr sz_b289)), V400'⟩
def Qo4 (Z : State) (v0 v1 v2 v3 : Int32) (h0 : Heap) (n0 : Nat) (v : Option Value) (h : Heap) (L : List Loc) : Prop := ∃ r kr, v = some (.ref r) ∧ Fr n0 L ∧ Keep h0 h [] ∧ Af Z h r kr .int (4 : Int32) (own_g4_4 v0 v1 v2 v3)
set_option maxRecDepth 65536 in
set_option maxHeartbeats 40000000 in
theorem rmO4 (l : Launch) (Z : State) (a0 : Array Value) (hw : ∀ d ∈ tables_1, d.before a0 Z = true) (ws : List Jvm.Cond) (a b : Addr) (kb : ClassId) (v0 v1 v2 v3 : Int32) (h0 : Heap) (n0 : Nat) (Z0 : n0 ≤ h0.size) (F1 : Fld Z h0 a "com/example/tube2/tube2/trace/BooleanSignal" "values" "[Z" (.ref b)) (F2 : Fld Z h0 a "com/example/tube2/tube2/trace/BooleanSignal" "size" "I" (.int (4 : Int32))) (A : Arv Z h0 b kb .boolean (1024 : Int32) [(.int v0), (.int v1), (.int v2), (.int v3)] (.int (0 : Int32))) (hb0 : v0 = (0 : Int32) ∨ v0 = (1 : Int32)) (hb1 : v1 = (0 : Int32) ∨ v1 = (1 : Int32)) (hb2 : v2 = (0 : Int32) ∨ v2 = (1 : Int32)) (hb3 : v3 = (0 : Int32) ∨ v3 = (1 : Int32)) :
    MetFree l (⟨"com/example/tube2/tube2/trace/BooleanSignal", "order", "()[I"⟩ : MethodName) (head1 (Jvm.Cond.code (⟨"com/example/tube2/tube2/trace/BooleanSignal", "order", "()[I"⟩ : MethodName) prog_91_method_10_code 6 (some (.array .int)) :: ws) ({ frames := 0, cells := 1, slots := 5, locals := 0 } : Room)) (fun aa UU => aa = #[(.ref a)] ∧ Z.Warmed39 UU.vm ∧ UU.heap = h0) (fun _ _ _ _ _ => True) (fun _ UU oo U' => ∃ v L, oo = .returned v ∧ Qo4 Z v0 v1 v2 v3 h0 n0 v U'.heap L ∧ FrameEnd UU oo U' L ({ frames := 0, cells := 1, slots := 5, locals := 0 } : Room).cells ({ frames := 0, cells := 1, slots := 5, locals := 0 } : Room).slots) := by
  refine MetFree.of_bodySF (plainFor_of_name pn_0) hisR ?_
  intro p e s m args below meth c s₁ Bd hml0 hP hK
  obtain ⟨rfl, hZ, hh⟩ := hP
  have hx := Bd.exec
  have hby := Bd.bytes
  have hml : c.maxLocals = 6 := hml0
  have hown : s.vm.findClass "com/example/tube2/tube2/trace/BooleanSignal" = some m.cls := findClass_of_methodNamed Bd.named
  have hnm := (name_of_methodNamed Bd.named Bd.method).1
  have X0 : Stand p l e ({ frames := 0, cells := 1, slots := 5, locals := 0 } : Room) s m #[(.ref a)] below meth c s₁ [] 0 0 := Stand.of_body Bd
  have e0 : s₁.heap = h0 := by rw [← hh, Bd.state]; rfl
  have N0 := Fr.nil n0
  obtain ⟨A0, hA0⟩ : ∃ A, A = s₁.setTop (entryFrame m #[(.ref a)] 6) := ⟨_, rfl⟩
  have G0 : Go p e below A0 (s₁.setTop (mkF m 0 #[.val (.ref a), .unset, .unset, .unset, .unset, .unset] [])) := fun tq kq => by rw [hA0]; exact castTop (ef_rmO4 m a) kq
  have G407 : Go p e below A0 (s₁.setTop (mkF m 1 #[.val (.ref a), .unset, .unset, .unset, .unset, .unset] [(.ref a)])) := fun tq kq => G0 tq (by
    refine XS.aloadN X0.here hx rfl (hb hby d3_0) rfl rfl ?_
    show Steps p.tables e below (s₁.setTop (mkF m 1 #[.val (.ref a), .unset, .unset, .unset, .unset, .unset] [(.ref a)])) _
    exact kq)
  obtain ⟨T408, X408, e408, st408⟩ := getF X0 hx hZ hown (host := "") (Or.inl (hw _ (List.mem_of_getElem? (i := 28) rfl))) Via.refl e0 F2 (g := (mkF m 1 #[.val (.ref a), .unset, .unset, .unset, .unset, .unset] [(.ref a)])) rfl rfl (hb hby d3_1)
  have G409 : Go p e below A0 (T408.setTop (mkF m 4 #[.val (.ref a), .unset, .unset, .unset, .unset, .unset] [(.int (4 : Int32))])) := fun tq kq => G407 tq (st408 _ kq)
  obtain ⟨T410, h410, k410, X410, e410, E410, A410, st410⟩ := newP X408 hx hZ (hw _ (List.mem_of_getElem? (i := 30) rfl)) e408 (g := (mkF m 4 #[.val (.ref a), .unset, .unset, .unset, .unset, .unset] [(.int (4 : Int32))])) rfl (hb hby d3_4) rfl (by decide) (cap := 4) (by decide) (by decide) (by decide) (by decide)
  obtain ⟨b410, g410⟩ : ∃ z, z = h0.size := ⟨_, rfl⟩
  rw [← g410] at A410 st410
  have sz_b410 : h0.size ≤ b410 := Nat.le_trans (Nat.le_refl h0.size) (Nat.le_of_eq g410.symm)
  have g_b410 : n0 ≤ b410 := Nat.le_trans Z0 (Nat.le_of_eq g410.symm)
  have ne_a_b410 : a ≠ b410 := Nat.ne_of_lt (Nat.lt_of_lt_of_le F1.lt (Nat.le_of_eq g410.symm))
  have ne_b_b410 : b ≠ b410 := Nat.ne_of_lt (Nat.lt_of_lt_of_le A.lt (Nat.le_of_eq g410.symm))
  have V410 : Arv Z h410 b410 k410 .int (4 : Int32) [(.int (0 : Int32)), (.int (0 : Int32)), (.int (0 : Int32)), (.int (0 : Int32))] (.int (0 : Int32)) := (Arv.new A410 (by decide)).pad (pad_rep [] (.int (0 : Int32)) 4)
  have G411 : Go p e below A0 (T410.setTop (mkF m 6 #[.val (.ref a), .unset, .unset, .unset, .unset, .unset] [(.ref b410)])) := fun tq kq => G409 tq (st410 _ kq)
  have Af0 : Af Z h410 b410 k410 .int (4 : Int32) (own_g4_0 v0 v1 v2 v3) := Af.of V410
  have G412 : Go p e below A0 (T410.setTop (mkF m 13 #[.val (.ref a), .val (.ref b410), .val (.int (0 : Int32)), .val (.int (0 : Int32)), .unset, .unset] [(.ref a), (.int (0 : Int32))])) := fun tq kq => G411 tq (by
    refine XS.astoreN X410.here hx rfl (hb hby d3_6) rfl rfl (l' := #[.val (.ref a), .val (.ref b410), .unset, .unset, .unset, .unset]) rfl ?_
    show Steps p.tables e below (T410.setTop (mkF m 7 #[.val (.ref a), .val (.ref b410), .unset, .unset, .unset, .unset] [])) _
    refine XS.iconst X410.here hx rfl (hb hby d3_7) ?_
    show Steps p.tables e below (T410.setTop (mkF m 8 #[.val (.ref a), .val (.ref b410), .unset, .unset, .unset, .unset] [(.int (0 : Int32))])) _
    refine XS.istoreN X410.here hx rfl (hb hby d3_8) rfl (l' := #[.val (.ref a), .val (.ref b410), .val (.int (0 : Int32)), .unset, .unset, .unset]) rfl ?_
    show Steps p.tables e below (T410.setTop (mkF m 9 #[.val (.ref a), .val (.ref b410), .val (.int (0 : Int32)), .unset, .unset, .unset] [])) _
    refine XS.iconst X410.here hx rfl (hb hby d3_9) ?_
    show Steps p.tables e below (T410.setTop (mkF m 10 #[.val (.ref a), .val (.ref b410), .val (.int (0 : Int32)), .unset, .unset, .unset] [(.int (0 : Int32))])) _
    refine XS.istoreN X410.here hx rfl (hb hby d3_10) rfl (l' := #[.val (.ref a), .val (.ref b410), .val (.int (0 : Int32)), .val (.int (0 : Int32)), .unset, .unset]) rfl ?_
    show Steps p.tables e below (T410.setTop (mkF m 11 #[.val (.ref a), .val (.ref b410), .val (.int (0 : Int32)), .val (.int (0 : Int32)), .unset, .unset] [])) _
    refine XS.iloadN X410.here hx rfl (hb hby d3_11) rfl ?_
    show Steps p.tables e below (T410.setTop (mkF m 12 #[.val (.ref a), .val (.ref b410), .val (.int (0 : Int32)), .val (.int (0 : Int32)), .unset, .unset] [(.int (0 : Int32))])) _
    refine XS.aloadN X410.here hx rfl (hb hby d3_12) rfl rfl ?_
    show Steps p.tables e below (T410.setTop (mkF m 13 #[.val (.ref a), .val (.ref b410), .val (.int (0 : Int32)), .val (.int (0 : Int32)), .unset, .unset] [(.ref a), (.int (0 : Int32))])) _
    exact kq)
  have f413 := (F2.ext E410)
  obtain ⟨T414, X414, e414, st414⟩ := getF X410 hx hZ hown (host := "") (Or.inl (hw _ (List.mem_of_getElem? (i := 28) rfl))) Via.refl e410 f413 (g := (mkF m 13 #[.val (.ref a), .val (.ref b410), .val (.int (0 : Int32)), .val (.int (0 : Int32)), .unset, .unset] [(.ref a), (.int (0 : Int32))])) rfl rfl (hb hby d3_13)
  have G415 : Go p e below A0 (T414.setTop (mkF m 16 #[.val (.ref a), .val (.ref b410), .val (.int (0 : Int32)), .val (.int (0 : Int32)), .unset, .unset] [(.int (4 : Int32)), (.int (0 : Int32))])) := fun tq kq => G412 tq (st414 _ kq)
  have G416 : Go p e below A0 (T414.setTop (mkF m 21 #[.val (.ref a), .val (.ref b410), .val (.int (0 : Int32)), .val (.int (0 : Int32)), .unset, .unset] [(.ref a), (.int (0 : Int32))])) := fun tq kq => G415 tq (by
    refine XS.icmpNo X414.here hx rfl (hb hby d3_16) rfl (by decide) ?_
    show Steps p.tables e below (T414.setTop (mkF m 19 #[.val (.ref a), .val (.ref b410), .val (.int (0 : Int32)), .val (.int (0 : Int32)), .unset, .unset] [])) _
    refine XS.iloadN X414.here hx rfl (hb hby d3_19) rfl ?_
    show Steps p.tables e below (T414.setTop (mkF m 20 #[.val (.ref a), .val (.ref b410), .val (.int (0 : Int32)), .val (.int (0 : Int32)), .unset, .unset] [(.int (0 : Int32))])) _
    refine XS.aloadN X414.here hx rfl (hb hby d3_20) rfl rfl ?_
    show Steps p.tables e below (T414.setTop (mkF m 21 #[.val (.ref a), .val (.ref b410), .val (.int (0 : Int32)), .val (.int (0 : Int32)), .unset, .unset] [(.ref a), (.int (0 : Int32))])) _
    exact kq)
  have f417 := (F1.ext E410)
  obtain ⟨T418, X418, e418, st418⟩ := getF X414 hx hZ hown (host := "") (Or.inl (hw _ (List.mem_of_getElem? (i := 19) rfl))) Via.refl e414 f417 (g := (mkF m 21 #[.val (.ref a), .val (.ref b410), .val (.int (0 : Int32)), .val (.int (0 : Int32)), .unset, .unset] [(.ref a), (.int (0 : Int32))])) rfl rfl (hb hby d3_21)
  have G419 : Go p e below A0 (T418.setTop (mkF m 24 #[.val (.ref a), .val (.ref b410), .val (.int (0 : Int32)), .val (.int (0 : Int32)), .unset, .unset] [(.ref b), (.int (0 : Int32))])) := fun tq kq => G416 tq (st418 _ kq)
  have G420 : Go p e below A0 (T418.setTop (mkF m 25 #[.val (.ref a), .val (.ref b410), .val (.int (0 : Int32)), .val (.int (0 : Int32)), .unset, .unset] [(.int (0 : Int32)), (.ref b), (.int (0 : Int32))])) := fun tq kq => G419 tq (by
    refine XS.iloadN X418.here hx rfl (hb hby d3_24) rfl ?_
    show Steps p.tables e below (T418.setTop (mkF m 25 #[.val (.ref a), .val (.ref b410), .val (.int (0 : Int32)), .val (.int (0 : Int32)), .unset, .unset] [(.int (0 : Int32)), (.ref b), (.int (0 : Int32))])) _
    exact kq)
  have f421 := (A.ext E410)
  obtain ⟨cl422, Ar422, q422, S422, M422, H422, Gf422⟩ := id f421
  have hi423 : ¬ ((0 : Int32) < 0 ∨ cl422.slots.size ≤ ((0 : Int32)).toNatClampNeg) := (inb_of S422 ⟨by decide, by decide⟩)
  have G424 : Go p e below A0 (T418.setTop (mkF m 26 #[.val (.ref a), .val (.ref b410), .val (.int (0 : Int32)), .val (.int (0 : Int32)), .unset, .unset] [(.int v0), (.int (0 : Int32))])) := fun tq kq => G420 tq (by
    refine X418.baloadBooleans hx (j := (0 : Int32)) (v := (.int v0)) (by rw [e418]; exact Ar422.1) (State.isArrayOf_alike hZ.alike Ar422.2.1) Ar422.2.2 hi423 (H422.at hi423 rfl) (g := (mkF m 25 #[.val (.ref a), .val (.ref b410), .val (.int (0 : Int32)), .val (.int (0 : Int32)), .unset, .unset] [(.int (0 : Int32)), (.ref b), (.int (0 : Int32))])) rfl rfl (hb hby d3_25) _ ?_
    show Steps p.tables e below (T418.setTop (mkF m 26 #[.val (.ref a), .val (.ref b410), .val (.int (0 : Int32)), .val (.int (0 : Int32)), .unset, .unset] [(.int v0), (.int (0 : Int32))])) _
    exact kq)
  obtain ⟨t0, hG425, G425⟩ : ∃ (t0 : Int32), (t0 = (own_z v0)) ∧ Go p e below A0 (T418.setTop (mkF m 34 #[.val (.ref a), .val (.ref b410), .val (.int (0 : Int32)), .val (.int (0 : Int32)), .unset, .unset] [(.int t0), (.int (0 : Int32))])) := by
    by_cases hc426 : v0 = (0 : Int32)
    · have G427 : Go p e below A0 (T418.setTop (mkF m 34 #[.val (.ref a), .val (.ref b410), .val (.int (0 : Int32)), .val (.int (0 : Int32)), .unset, .unset] [(.int (1 : Int32)), (.int (0 : Int32))])) := fun tq kq => G424 tq (by
        refine XS.ifYes X418.here hx rfl (pc0 := 26) (pc' := 33) rfl (hb hby d3_26) rfl ((if0 _ _).trans (teq hc426).1) (by decide) (by decide) ?_
        show Steps p.tables e below (T418.setTop (mkF m 33 #[.val (.ref a), .val (.ref b410), .val (.int (0 : Int32)), .val (.int (0 : Int32)), .unset, .unset] [(.int (0 : Int32))])) _
        refine XS.iconst X418.here hx rfl (hb hby d3_33) ?_
        show Steps p.tables e below (T418.setTop (mkF m 34 #[.val (.ref a), .val (.ref b410), .val (.int (0 : Int32)), .val (.int (0 : Int32)), .unset, .unset] [(.int (1 : Int32)), (.int (0 : Int32))])) _
        exact kq)
      exact ⟨(1 : Int32), (by simp [own_z, own_b, hc426]), G427⟩
    · have G428 : Go p e below A0 (T418.setTop (mkF m 34 #[.val (.ref a), .val (.ref b410), .val (.int (0 : Int32)), .val (.int (0 : Int32)), .unset, .unset] [(.int (0 : Int32)), (.int (0 : Int32))])) := fun tq kq => G424 tq (by
        refine XS.ifNo X418.here hx rfl (hb hby d3_26) rfl ((if0 _ _).trans (feq hc426).1) ?_
        show Steps p.tables e below (T418.setTop (mkF m 29 #[.val (.ref a), .val (.ref b410), .val (.int (0 : Int32)), .val (.int (0 : Int32)), .unset, .unset] [(.int (0 : Int32))])) _
        refine XS.iconst X418.here hx rfl (hb hby d3_29) ?_
        show Steps p.tables e below (T418.setTop (mkF m 30 #[.val (.ref a), .val (.ref b410), .val (.int (0 : Int32)), .val (.int (0 : Int32)), .unset, .unset] [(.int (0 : Int32)), (.int (0 : Int32))])) _
        refine XS.goto X418.here hx rfl (pc0 := 30) (pc' := 34) rfl (hb hby d3_30) (by decide) (by decide) ?_
        show Steps p.tables e below (T418.setTop (mkF m 34 #[.val (.ref a), .val (.ref b410), .val (.int (0 : Int32)), .val (.int (0 : Int32)), .unset, .unset] [(.int (0 : Int32)), (.int (0 : Int32))])) _
        exact kq)
      exact ⟨(0 : Int32), (by simp [own_z, own_b, hc426]), G428⟩
  subst hG425
  have G429 : Go p e below A0 (T418.setTop (mkF m 13 #[.val (.ref a), .val (.ref b410), .val (.int (own_nf1 v0)), .val (.int (1 : Int32)), .unset, .unset] [(.ref a), (.int (1 : Int32))])) := fun tq kq => G425 tq (by
    refine XS.iadd X418.here hx rfl (hb hby d3_34) rfl ?_
    show Steps p.tables e below (T418.setTop (mkF m 35 #[.val (.ref a), .val (.ref b410), .val (.int (0 : Int32)), .val (.int (0 : Int32)), .unset, .unset] [(.int ((0 : Int32) + (own_z v0)))])) _
    rw [show ((0 : Int32) + (own_z v0)) = (own_nf1 v0) from rfl]
    show Steps p.tables e below (T418.setTop (mkF m 35 #[.val (.ref a), .val (.ref b410), .val (.int (0 : Int32)), .val (.int (0 : Int32)), .unset, .unset] [(.int (own_nf1 v0))])) _
    refine XS.istoreN X418.here hx rfl (hb hby d3_35) rfl (l' := #[.val (.ref a), .val (.ref b410), .val (.int (own_nf1 v0)), .val (.int (0 : Int32)), .unset, .unset]) rfl ?_
    show Steps p.tables e below (T418.setTop (mkF m 36 #[.val (.ref a), .val (.ref b410), .val (.int (own_nf1 v0)), .val (.int (0 : Int32)), .unset, .unset] [])) _
    refine XS.iinc X418.here hx rfl (hb hby d3_36) rfl (l' := #[.val (.ref a), .val (.ref b410), .val (.int (own_nf1 v0)), .val (.int ((0 : Int32) + (1 : Int32))), .unset, .unset]) rfl ?_
    show Steps p.tables e below (T418.setTop (mkF m 39 #[.val (.ref a), .val (.ref b410), .val (.int (own_nf1 v0)), .val (.int ((0 : Int32) + (1 : Int32))), .unset, .unset] [])) _
    rw [show ((0 : Int32) + (1 : Int32)) = (1 : Int32) from (by decide : ((0 : Int32) + (1 : Int32)) = (1 : Int32))]
    show Steps p.tables e below (T418.setTop (mkF m 39 #[.val (.ref a), .val (.ref b410), .val (.int (own_nf1 v0)), .val (.int (1 : Int32)), .unset, .unset] [])) _
    refine XS.goto X418.here hx rfl (pc0 := 39) (pc' := 11) rfl (hb hby d3_39) (by decide) (by decide) ?_
    show Steps p.tables e below (T418.setTop (mkF m 11 #[.val (.ref a), .val (.ref b410), .val (.int (own_nf1 v0)), .val (.int (1 : Int32)), .unset, .unset] [])) _
    refine XS.iloadN X418.here hx rfl (hb hby d3_11) rfl ?_
    show Steps p.tables e below (T418.setTop (mkF m 12 #[.val (.ref a), .val (.ref b410), .val (.int (own_nf1 v0)), .val (.int (1 : Int32)), .unset, .unset] [(.int (1 : Int32))])) _
    refine XS.aloadN X418.here hx rfl (hb hby d3_12) rfl rfl ?_
    show Steps p.tables e below (T418.setTop (mkF m 13 #[.val (.ref a), .val (.ref b410), .val (.int (own_nf1 v0)), .val (.int (1 : Int32)), .unset, .unset] [(.ref a), (.int (1 : Int32))])) _
    exact kq)
  obtain ⟨T430, X430, e430, st430⟩ := getF X418 hx hZ hown (host := "") (Or.inl (hw _ (List.mem_of_getElem? (i := 28) rfl))) Via.refl e418 f413 (g := (mkF m 13 #[.val (.ref a), .val (.ref b410), .val (.int (own_nf1 v0)), .val (.int (1 : Int32)), .unset, .unset] [(.ref a), (.int (1 : Int32))])) rfl rfl (hb hby d3_13)
  have G431 : Go p e below A0 (T430.setTop (mkF m 16 #[.val (.ref a), .val (.ref b410), .val (.int (own_nf1 v0)), .val (.int (1 : Int32)), .unset, .unset] [(.int (4 : Int32)), (.int (1 : Int32))])) := fun tq kq => G429 tq (st430 _ kq)
  have G432 : Go p e below A0 (T430.setTop (mkF m 21 #[.val (.ref a), .val (.ref b410), .val (.int (own_nf1 v0)), .val (.int (1 : Int32)), .unset, .unset] [(.ref a), (.int (own_nf1 v0))])) := fun tq kq => G431 tq (by
    refine XS.icmpNo X430.here hx rfl (hb hby d3_16) rfl (by decide) ?_
    show Steps p.tables e below (T430.setTop (mkF m 19 #[.val (.ref a), .val (.ref b410), .val (.int (own_nf1 v0)), .val (.int (1 : Int32)), .unset, .unset] [])) _
    refine XS.iloadN X430.here hx rfl (hb hby d3_19) rfl ?_
    show Steps p.tables e below (T430.setTop (mkF m 20 #[.val (.ref a), .val (.ref b410), .val (.int (own_nf1 v0)), .val (.int (1 : Int32)), .unset, .unset] [(.int (own_nf1 v0))])) _
    refine XS.aloadN X430.here hx rfl (hb hby d3_20) rfl rfl ?_
    show Steps p.tables e below (T430.setTop (mkF m 21 #[.val (.ref a), .val (.ref b410), .val (.int (own_nf1 v0)), .val (.int (1 : Int32)), .unset, .unset] [(.ref a), (.int (own_nf1 v0))])) _
    exact kq)
  obtain ⟨T433, X433, e433, st433⟩ := getF X430 hx hZ hown (host := "") (Or.inl (hw _ (List.mem_of_getElem? (i := 19) rfl))) Via.refl e430 f417 (g := (mkF m 21 #[.val (.ref a), .val (.ref b410), .val (.int (own_nf1 v0)), .val (.int (1 : Int32)), .unset, .unset] [(.ref a), (.int (own_nf1 v0))])) rfl rfl (hb hby d3_21)
  have G434 : Go p e below A0 (T433.setTop (mkF m 24 #[.val (.ref a), .val (.ref b410), .val (.int (own_nf1 v0)), .val (.int (1 : Int32)), .unset, .unset] [(.ref b), (.int (own_nf1 v0))])) := fun tq kq => G432 tq (st433 _ kq)
  have G435 : Go p e below A0 (T433.setTop (mkF m 25 #[.val (.ref a), .val (.ref b410), .val (.int (own_nf1 v0)), .val (.int (1 : Int32)), .unset, .unset] [(.int (1 : Int32)), (.ref b), (.int (own_nf1 v0))])) := fun tq kq => G434 tq (by
    refine XS.iloadN X433.here hx rfl (hb hby d3_24) rfl ?_
    show Steps p.tables e below (T433.setTop (mkF m 25 #[.val (.ref a), .val (.ref b410), .val (.int (own_nf1 v0)), .val (.int (1 : Int32)), .unset, .unset] [(.int (1 : Int32)), (.ref b), (.int (own_nf1 v0))])) _
    exact kq)
  obtain ⟨cl436, Ar436, q436, S436, M436, H436, Gf436⟩ := id f421
  have hi437 : ¬ ((1 : Int32) < 0 ∨ cl436.slots.size ≤ ((1 : Int32)).toNatClampNeg) := (inb_of S436 ⟨by decide, by decide⟩)
  have G438 : Go p e below A0 (T433.setTop (mkF m 26 #[.val (.ref a), .val (.ref b410), .val (.int (own_nf1 v0)), .val (.int (1 : Int32)), .unset, .unset] [(.int v1), (.int (own_nf1 v0))])) := fun tq kq => G435 tq (by
    refine X433.baloadBooleans hx (j := (1 : Int32)) (v := (.int v1)) (by rw [e433]; exact Ar436.1) (State.isArrayOf_alike hZ.alike Ar436.2.1) Ar436.2.2 hi437 (H436.at hi437 rfl) (g := (mkF m 25 #[.val (.ref a), .val (.ref b410), .val (.int (own_nf1 v0)), .val (.int (1 : Int32)), .unset, .unset] [(.int (1 : Int32)), (.ref b), (.int (own_nf1 v0))])) rfl rfl (hb hby d3_25) _ ?_
    show Steps p.tables e below (T433.setTop (mkF m 26 #[.val (.ref a), .val (.ref b410), .val (.int (own_nf1 v0)), .val (.int (1 : Int32)), .unset, .unset] [(.int v1), (.int (own_nf1 v0))])) _
    exact kq)
  obtain ⟨t1, hG439, G439⟩ : ∃ (t1 : Int32), (t1 = (own_z v1)) ∧ Go p e below A0 (T433.setTop (mkF m 34 #[.val (.ref a), .val (.ref b410), .val (.int (own_nf1 v0)), .val (.int (1 : Int32)), .unset, .unset] [(.int t1), (.int (own_nf1 v0))])) := by
    by_cases hc440 : v1 = (0 : Int32)
    · have G441 : Go p e below A0 (T433.setTop (mkF m 34 #[.val (.ref a), .val (.ref b410), .val (.int (own_nf1 v0)), .val (.int (1 : Int32)), .unset, .unset] [(.int (1 : Int32)), (.int (own_nf1 v0))])) := fun tq kq => G438 tq (by
        refine XS.ifYes X433.here hx rfl (pc0 := 26) (pc' := 33) rfl (hb hby d3_26) rfl ((if0 _ _).trans (teq hc440).1) (by decide) (by decide) ?_
        show Steps p.tables e below (T433.setTop (mkF m 33 #[.val (.ref a), .val (.ref b410), .val (.int (own_nf1 v0)), .val (.int (1 : Int32)), .unset, .unset] [(.int (own_nf1 v0))])) _
        refine XS.iconst X433.here hx rfl (hb hby d3_33) ?_
        show Steps p.tables e below (T433.setTop (mkF m 34 #[.val (.ref a), .val (.ref b410), .val (.int (own_nf1 v0)), .val (.int (1 : Int32)), .unset, .unset] [(.int (1 : Int32)), (.int (own_nf1 v0))])) _
        exact kq)
      exact ⟨(1 : Int32), (by simp [own_z, own_b, hc440]), G441⟩
    · have G442 : Go p e below A0 (T433.setTop (mkF m 34 #[.val (.ref a), .val (.ref b410), .val (.int (own_nf1 v0)), .val (.int (1 : Int32)), .unset, .unset] [(.int (0 : Int32)), (.int (own_nf1 v0))])) := fun tq kq => G438 tq (by
        refine XS.ifNo X433.here hx rfl (hb hby d3_26) rfl ((if0 _ _).trans (feq hc440).1) ?_
        show Steps p.tables e below (T433.setTop (mkF m 29 #[.val (.ref a), .val (.ref b410), .val (.int (own_nf1 v0)), .val (.int (1 : Int32)), .unset, .unset] [(.int (own_nf1 v0))])) _
        refine XS.iconst X433.here hx rfl (hb hby d3_29) ?_
        show Steps p.tables e below (T433.setTop (mkF m 30 #[.val (.ref a), .val (.ref b410), .val (.int (own_nf1 v0)), .val (.int (1 : Int32)), .unset, .unset] [(.int (0 : Int32)), (.int (own_nf1 v0))])) _
        refine XS.goto X433.here hx rfl (pc0 := 30) (pc' := 34) rfl (hb hby d3_30) (by decide) (by decide) ?_
        show Steps p.tables e below (T433.setTop (mkF m 34 #[.val (.ref a), .val (.ref b410), .val (.int (own_nf1 v0)), .val (.int (1 : Int32)), .unset, .unset] [(.int (0 : Int32)), (.int (own_nf1 v0))])) _
        exact kq)
      exact ⟨(0 : Int32), (by simp [own_z, own_b, hc440]), G442⟩
  subst hG439
  have G443 : Go p e below A0 (T433.setTop (mkF m 13 #[.val (.ref a), .val (.ref b410), .val (.int (own_nf2 v0 v1)), .val (.int (2 : Int32)), .unset, .unset] [(.ref a), (.int (2 : Int32))])) := fun tq kq => G439 tq (by
    refine XS.iadd X433.here hx rfl (hb hby d3_34) rfl ?_
    show Steps p.tables e below (T433.setTop (mkF m 35 #[.val (.ref a), .val (.ref b410), .val (.int (own_nf1 v0)), .val (.int (1 : Int32)), .unset, .unset] [(.int ((own_nf1 v0) + (own_z v1)))])) _
    rw [show ((own_nf1 v0) + (own_z v1)) = (own_nf2 v0 v1) from rfl]
    show Steps p.tables e below (T433.setTop (mkF m 35 #[.val (.ref a), .val (.ref b410), .val (.int (own_nf1 v0)), .val (.int (1 : Int32)), .unset, .unset] [(.int (own_nf2 v0 v1))])) _
    refine XS.istoreN X433.here hx rfl (hb hby d3_35) rfl (l' := #[.val (.ref a), .val (.ref b410), .val (.int (own_nf2 v0 v1)), .val (.int (1 : Int32)), .unset, .unset]) rfl ?_
    show Steps p.tables e below (T433.setTop (mkF m 36 #[.val (.ref a), .val (.ref b410), .val (.int (own_nf2 v0 v1)), .val (.int (1 : Int32)), .unset, .unset] [])) _
    refine XS.iinc X433.here hx rfl (hb hby d3_36) rfl (l' := #[.val (.ref a), .val (.ref b410), .val (.int (own_nf2 v0 v1)), .val (.int ((1 : Int32) + (1 : Int32))), .unset, .unset]) rfl ?_
    show Steps p.tables e below (T433.setTop (mkF m 39 #[.val (.ref a), .val (.ref b410), .val (.int (own_nf2 v0 v1)), .val (.int ((1 : Int32) + (1 : Int32))), .unset, .unset] [])) _
    rw [show ((1 : Int32) + (1 : Int32)) = (2 : Int32) from (by decide : ((1 : Int32) + (1 : Int32)) = (2 : Int32))]
    show Steps p.tables e below (T433.setTop (mkF m 39 #[.val (.ref a), .val (.ref b410), .val (.int (own_nf2 v0 v1)), .val (.int (2 : Int32)), .unset, .unset] [])) _
    refine XS.goto X433.here hx rfl (pc0 := 39) (pc' := 11) rfl (hb hby d3_39) (by decide) (by decide) ?_
    show Steps p.tables e below (T433.setTop (mkF m 11 #[.val (.ref a), .val (.ref b410), .val (.int (own_nf2 v0 v1)), .val (.int (2 : Int32)), .unset, .unset] [])) _
    refine XS.iloadN X433.here hx rfl (hb hby d3_11) rfl ?_
    show Steps p.tables e below (T433.setTop (mkF m 12 #[.val (.ref a), .val (.ref b410), .val (.int (own_nf2 v0 v1)), .val (.int (2 : Int32)), .unset, .unset] [(.int (2 : Int32))])) _
    refine XS.aloadN X433.here hx rfl (hb hby d3_12) rfl rfl ?_
    show Steps p.tables e below (T433.setTop (mkF m 13 #[.val (.ref a), .val (.ref b410), .val (.int (own_nf2 v0 v1)), .val (.int (2 : Int32)), .unset, .unset] [(.ref a), (.int (2 : Int32))])) _
    exact kq)
  obtain ⟨T444, X444, e444, st444⟩ := getF X433 hx hZ hown (host := "") (Or.inl (hw _ (List.mem_of_getElem? (i := 28) rfl))) Via.refl e433 f413 (g := (mkF m 13 #[.val (.ref a), .val (.ref b410), .val (.int (own_nf2 v0 v1)), .val (.int (2 : Int32)), .unset, .unset] [(.ref a), (.int (2 : Int32))])) rfl rfl (hb hby d3_13)
  have G445 : Go p e below A0 (T444.setTop (mkF m 16 #[.val (.ref a), .val (.ref b410), .val (.int (own_nf2 v0 v1)), .val (.int (2 : Int32)), .unset, .unset] [(.int (4 : Int32)), (.int (2 : Int32))])) := fun tq kq => G443 tq (st444 _ kq)
  have G446 : Go p e below A0 (T444.setTop (mkF m 21 #[.val (.ref a), .val (.ref b410), .val (.int (own_nf2 v0 v1)), .val (.int (2 : Int32)), .unset, .unset] [(.ref a), (.int (own_nf2 v0 v1))])) := fun tq kq => G445 tq (by
    refine XS.icmpNo X444.here hx rfl (hb hby d3_16) rfl (by decide) ?_
    show Steps p.tables e below (T444.setTop (mkF m 19 #[.val (.ref a), .val (.ref b410), .val (.int (own_nf2 v0 v1)), .val (.int (2 : Int32)), .unset, .unset] [])) _
    refine XS.iloadN X444.here hx rfl (hb hby d3_19) rfl ?_
    show Steps p.tables e below (T444.setTop (mkF m 20 #[.val (.ref a), .val (.ref b410), .val (.int (own_nf2 v0 v1)), .val (.int (2 : Int32)), .unset, .unset] [(.int (own_nf2 v0 v1))])) _
    refine XS.aloadN X444.here hx rfl (hb hby d3_20) rfl rfl ?_
    show Steps p.tables e below (T444.setTop (mkF m 21 #[.val (.ref a), .val (.ref b410), .val (.int (own_nf2 v0 v1)), .val (.int (2 : Int32)), .unset, .unset] [(.ref a), (.int (own_nf2 v0 v1))])) _
    exact kq)
  obtain ⟨T447, X447, e447, st447⟩ := getF X444 hx hZ hown (host := "") (Or.inl (hw _ (List.mem_of_getElem? (i := 19) rfl))) Via.refl e444 f417 (g := (mkF m 21 #[.val (.ref a), .val (.ref b410), .val (.int (own_nf2 v0 v1)), .val (.int (2 : Int32)), .unset, .unset] [(.ref a), (.int (own_nf2 v0 v1))])) rfl rfl (hb hby d3_21)
  have G448 : Go p e below A0 (T447.setTop (mkF m 24 #[.val (.ref a), .val (.ref b410), .val (.int (own_nf2 v0 v1)), .val (.int (2 : Int32)), .unset, .unset] [(.ref b), (.int (own_nf2 v0 v1))])) := fun tq kq => G446 tq (st447 _ kq)
  have G449 : Go p e below A0 (T447.setTop (mkF m 25 #[.val (.ref a), .val (.ref b410), .val (.int (own_nf2 v0 v1)), .val (.int (2 : Int32)), .unset, .unset] [(.int (2 : Int32)), (.ref b), (.int (own_nf2 v0 v1))])) := fun tq kq => G448 tq (by
    refine XS.iloadN X447.here hx rfl (hb hby d3_24) rfl ?_
    show Steps p.tables e below (T447.setTop (mkF m 25 #[.val (.ref a), .val (.ref b410), .val (.int (own_nf2 v0 v1)), .val (.int (2 : Int32)), .unset, .unset] [(.int (2 : Int32)), (.ref b), (.int (own_nf2 v0 v1))])) _
    exact kq)
  obtain ⟨cl450, Ar450, q450, S450, M450, H450, Gf450⟩ := id f421
  have hi451 : ¬ ((2 : Int32) < 0 ∨ cl450.slots.size ≤ ((2 : Int32)).toNatClampNeg) := (inb_of S450 ⟨by decide, by decide⟩)
  have G452 : Go p e below A0 (T447.setTop (mkF m 26 #[.val (.ref a), .val (.ref b410), .val (.int (own_nf2 v0 v1)), .val (.int (2 : Int32)), .unset, .unset] [(.int v2), (.int (own_nf2 v0 v1))])) := fun tq kq => G449 tq (by
    refine X447.baloadBooleans hx (j := (2 : Int32)) (v := (.int v2)) (by rw [e447]; exact Ar450.1) (State.isArrayOf_alike hZ.alike Ar450.2.1) Ar450.2.2 hi451 (H450.at hi451 rfl) (g := (mkF m 25 #[.val (.ref a), .val (.ref b410), .val (.int (own_nf2 v0 v1)), .val (.int (2 : Int32)), .unset, .unset] [(.int (2 : Int32)), (.ref b), (.int (own_nf2 v0 v1))])) rfl rfl (hb hby d3_25) _ ?_
    show Steps p.tables e below (T447.setTop (mkF m 26 #[.val (.ref a), .val (.ref b410), .val (.int (own_nf2 v0 v1)), .val (.int (2 : Int32)), .unset, .unset] [(.int v2), (.int (own_nf2 v0 v1))])) _
    exact kq)
  obtain ⟨t2, hG453, G453⟩ : ∃ (t2 : Int32), (t2 = (own_z v2)) ∧ Go p e below A0 (T447.setTop (mkF m 34 #[.val (.ref a), .val (.ref b410), .val (.int (own_nf2 v0 v1)), .val (.int (2 : Int32)), .unset, .unset] [(.int t2), (.int (own_nf2 v0 v1))])) := by
    by_cases hc454 : v2 = (0 : Int32)
    · have G455 : Go p e below A0 (T447.setTop (mkF m 34 #[.val (.ref a), .val (.ref b410), .val (.int (own_nf2 v0 v1)), .val (.int (2 : Int32)), .unset, .unset] [(.int (1 : Int32)), (.int (own_nf2 v0 v1))])) := fun tq kq => G452 tq (by
        refine XS.ifYes X447.here hx rfl (pc0 := 26) (pc' := 33) rfl (hb hby d3_26) rfl ((if0 _ _).trans (teq hc454).1) (by decide) (by decide) ?_
        show Steps p.tables e below (T447.setTop (mkF m 33 #[.val (.ref a), .val (.ref b410), .val (.int (own_nf2 v0 v1)), .val (.int (2 : Int32)), .unset, .unset] [(.int (own_nf2 v0 v1))])) _
        refine XS.iconst X447.here hx rfl (hb hby d3_33) ?_
        show Steps p.tables e below (T447.setTop (mkF m 34 #[.val (.ref a), .val (.ref b410), .val (.int (own_nf2 v0 v1)), .val (.int (2 : Int32)), .unset, .unset] [(.int (1 : Int32)), (.int (own_nf2 v0 v1))])) _
        exact kq)
      exact ⟨(1 : Int32), (by simp [own_z, own_b, hc454]), G455⟩
    · have G456 : Go p e below A0 (T447.setTop (mkF m 34 #[.val (.ref a), .val (.ref b410), .val (.int (own_nf2 v0 v1)), .val (.int (2 : Int32)), .unset, .unset] [(.int (0 : Int32)), (.int (own_nf2 v0 v1))])) := fun tq kq => G452 tq (by
        refine XS.ifNo X447.here hx rfl (hb hby d3_26) rfl ((if0 _ _).trans (feq hc454).1) ?_
        show Steps p.tables e below (T447.setTop (mkF m 29 #[.val (.ref a), .val (.ref b410), .val (.int (own_nf2 v0 v1)), .val (.int (2 : Int32)), .unset, .unset] [(.int (own_nf2 v0 v1))])) _
        refine XS.iconst X447.here hx rfl (hb hby d3_29) ?_
        show Steps p.tables e below (T447.setTop (mkF m 30 #[.val (.ref a), .val (.ref b410), .val (.int (own_nf2 v0 v1)), .val (.int (2 : Int32)), .unset, .unset] [(.int (0 : Int32)), (.int (own_nf2 v0 v1))])) _
        refine XS.goto X447.here hx rfl (pc0 := 30) (pc' := 34) rfl (hb hby d3_30) (by decide) (by decide) ?_
        show Steps p.tables e below (T447.setTop (mkF m 34 #[.val (.ref a), .val (.ref b410), .val (.int (own_nf2 v0 v1)), .val (.int (2 : Int32)), .unset, .unset] [(.int (0 : Int32)), (.int (own_nf2 v0 v1))])) _
        exact kq)
      exact ⟨(0 : Int32), (by simp [own_z, own_b, hc454]), G456⟩
  subst hG453
  have G457 : Go p e below A0 (T447.setTop (mkF m 13 #[.val (.ref a), .val (.ref b410), .val (.int (own_nf3 v0 v1 v2)), .val (.int (3 : Int32)), .unset, .unset] [(.ref a), (.int (3 : Int32))])) := fun tq kq => G453 tq (by
    refine XS.iadd X447.here hx rfl (hb hby d3_34) rfl ?_
    show Steps p.tables e below (T447.setTop (mkF m 35 #[.val (.ref a), .val (.ref b410), .val (.int (own_nf2 v0 v1)), .val (.int (2 : Int32)), .unset, .unset] [(.int ((own_nf2 v0 v1) + (own_z v2)))])) _
    rw [show ((own_nf2 v0 v1) + (own_z v2)) = (own_nf3 v0 v1 v2) from rfl]
    show Steps p.tables e below (T447.setTop (mkF m 35 #[.val (.ref a), .val (.ref b410), .val (.int (own_nf2 v0 v1)), .val (.int (2 : Int32)), .unset, .unset] [(.int (own_nf3 v0 v1 v2))])) _
    refine XS.istoreN X447.here hx rfl (hb hby d3_35) rfl (l' := #[.val (.ref a), .val (.ref b410), .val (.int (own_nf3 v0 v1 v2)), .val (.int (2 : Int32)), .unset, .unset]) rfl ?_
    show Steps p.tables e below (T447.setTop (mkF m 36 #[.val (.ref a), .val (.ref b410), .val (.int (own_nf3 v0 v1 v2)), .val (.int (2 : Int32)), .unset, .unset] [])) _
    refine XS.iinc X447.here hx rfl (hb hby d3_36) rfl (l' := #[.val (.ref a), .val (.ref b410), .val (.int (own_nf3 v0 v1 v2)), .val (.int ((2 : Int32) + (1 : Int32))), .unset, .unset]) rfl ?_
    show Steps p.tables e below (T447.setTop (mkF m 39 #[.val (.ref a), .val (.ref b410), .val (.int (own_nf3 v0 v1 v2)), .val (.int ((2 : Int32) + (1 : Int32))), .unset, .unset] [])) _
    rw [show ((2 : Int32) + (1 : Int32)) = (3 : Int32) from (by decide : ((2 : Int32) + (1 : Int32)) = (3 : Int32))]
    show Steps p.tables e below (T447.setTop (mkF m 39 #[.val (.ref a), .val (.ref b410), .val (.int (own_nf3 v0 v1 v2)), .val (.int (3 : Int32)), .unset, .unset] [])) _
    refine XS.goto X447.here hx rfl (pc0 := 39) (pc' := 11) rfl (hb hby d3_39) (by decide) (by decide) ?_
    show Steps p.tables e below (T447.setTop (mkF m 11 #[.val (.ref a), .val (.ref b410), .val (.int (own_nf3 v0 v1 v2)), .val (.int (3 : Int32)), .unset, .unset] [])) _
    refine XS.iloadN X447.here hx rfl (hb hby d3_11) rfl ?_
    show Steps p.tables e below (T447.setTop (mkF m 12 #[.val (.ref a), .val (.ref b410), .val (.int (own_nf3 v0 v1 v2)), .val (.int (3 : Int32)), .unset, .unset] [(.int (3 : Int32))])) _
    refine XS.aloadN X447.here hx rfl (hb hby d3_12) rfl rfl ?_
    show Steps p.tables e below (T447.setTop (mkF m 13 #[.val (.ref a), .val (.ref b410), .val (.int (own_nf3 v0 v1 v2)), .val (.int (3 : Int32)), .unset, .unset] [(.ref a), (.int (3 : Int32))])) _
    exact kq)
  obtain ⟨T458, X458, e458, st458⟩ := getF X447 hx hZ hown (host := "") (Or.inl (hw _ (List.mem_of_getElem? (i := 28) rfl))) Via.refl e447 f413 (g := (mkF m 13 #[.val (.ref a), .val (.ref b410), .val (.int (own_nf3 v0 v1 v2)), .val (.int (3 : Int32)), .unset, .unset] [(.ref a), (.int (3 : Int32))])) rfl rfl (hb hby d3_13)
  have G459 : Go p e below A0 (T458.setTop (mkF m 16 #[.val (.ref a), .val (.ref b410), .val (.int (own_nf3 v0 v1 v2)), .val (.int (3 : Int32)), .unset, .unset] [(.int (4 : Int32)), (.int (3 : Int32))])) := fun tq kq => G457 tq (st458 _ kq)
  have G460 : Go p e below A0 (T458.setTop (mkF m 21 #[.val (.ref a), .val (.ref b410), .val (.int (own_nf3 v0 v1 v2)), .val (.int (3 : Int32)), .unset, .unset] [(.ref a), (.int (own_nf3 v0 v1 v2))])) := fun tq kq => G459 tq (by
    refine XS.icmpNo X458.here hx rfl (hb hby d3_16) rfl (by decide) ?_
    show Steps p.tables e below (T458.setTop (mkF m 19 #[.val (.ref a), .val (.ref b410), .val (.int (own_nf3 v0 v1 v2)), .val (.int (3 : Int32)), .unset, .unset] [])) _
    refine XS.iloadN X458.here hx rfl (hb hby d3_19) rfl ?_
    show Steps p.tables e below (T458.setTop (mkF m 20 #[.val (.ref a), .val (.ref b410), .val (.int (own_nf3 v0 v1 v2)), .val (.int (3 : Int32)), .unset, .unset] [(.int (own_nf3 v0 v1 v2))])) _
    refine XS.aloadN X458.here hx rfl (hb hby d3_20) rfl rfl ?_
    show Steps p.tables e below (T458.setTop (mkF m 21 #[.val (.ref a), .val (.ref b410), .val (.int (own_nf3 v0 v1 v2)), .val (.int (3 : Int32)), .unset, .unset] [(.ref a), (.int (own_nf3 v0 v1 v2))])) _
    exact kq)
  obtain ⟨T461, X461, e461, st461⟩ := getF X458 hx hZ hown (host := "") (Or.inl (hw _ (List.mem_of_getElem? (i := 19) rfl))) Via.refl e458 f417 (g := (mkF m 21 #[.val (.ref a), .val (.ref b410), .val (.int (own_nf3 v0 v1 v2)), .val (.int (3 : Int32)), .unset, .unset] [(.ref a), (.int (own_nf3 v0 v1 v2))])) rfl rfl (hb hby d3_21)
  have G462 : Go p e below A0 (T461.setTop (mkF m 24 #[.val (.ref a), .val (.ref b410), .val (.int (own_nf3 v0 v1 v2)), .val (.int (3 : Int32)), .unset, .unset] [(.ref b), (.int (own_nf3 v0 v1 v2))])) := fun tq kq => G460 tq (st461 _ kq)
  have G463 : Go p e below A0 (T461.setTop (mkF m 25 #[.val (.ref a), .val (.ref b410), .val (.int (own_nf3 v0 v1 v2)), .val (.int (3 : Int32)), .unset, .unset] [(.int (3 : Int32)), (.ref b), (.int (own_nf3 v0 v1 v2))])) := fun tq kq => G462 tq (by
    refine XS.iloadN X461.here hx rfl (hb hby d3_24) rfl ?_
    show Steps p.tables e below (T461.setTop (mkF m 25 #[.val (.ref a), .val (.ref b410), .val (.int (own_nf3 v0 v1 v2)), .val (.int (3 : Int32)), .unset, .unset] [(.int (3 : Int32)), (.ref b), (.int (own_nf3 v0 v1 v2))])) _
    exact kq)
  obtain ⟨cl464, Ar464, q464, S464, M464, H464, Gf464⟩ := id f421
  have hi465 : ¬ ((3 : Int32) < 0 ∨ cl464.slots.size ≤ ((3 : Int32)).toNatClampNeg) := (inb_of S464 ⟨by decide, by decide⟩)
  have G466 : Go p e below A0 (T461.setTop (mkF m 26 #[.val (.ref a), .val (.ref b410), .val (.int (own_nf3 v0 v1 v2)), .val (.int (3 : Int32)), .unset, .unset] [(.int v3), (.int (own_nf3 v0 v1 v2))])) := fun tq kq => G463 tq (by
    refine X461.baloadBooleans hx (j := (3 : Int32)) (v := (.int v3)) (by rw [e461]; exact Ar464.1) (State.isArrayOf_alike hZ.alike Ar464.2.1) Ar464.2.2 hi465 (H464.at hi465 rfl) (g := (mkF m 25 #[.val (.ref a), .val (.ref b410), .val (.int (own_nf3 v0 v1 v2)), .val (.int (3 : Int32)), .unset, .unset] [(.int (3 : Int32)), (.ref b), (.int (own_nf3 v0 v1 v2))])) rfl rfl (hb hby d3_25) _ ?_
    show Steps p.tables e below (T461.setTop (mkF m 26 #[.val (.ref a), .val (.ref b410), .val (.int (own_nf3 v0 v1 v2)), .val (.int (3 : Int32)), .unset, .unset] [(.int v3), (.int (own_nf3 v0 v1 v2))])) _
    exact kq)
  obtain ⟨t3, hG467, G467⟩ : ∃ (t3 : Int32), (t3 = (own_z v3)) ∧ Go p e below A0 (T461.setTop (mkF m 34 #[.val (.ref a), .val (.ref b410), .val (.int (own_nf3 v0 v1 v2)), .val (.int (3 : Int32)), .unset, .unset] [(.int t3), (.int (own_nf3 v0 v1 v2))])) := by
    by_cases hc468 : v3 = (0 : Int32)
    · have G469 : Go p e below A0 (T461.setTop (mkF m 34 #[.val (.ref a), .val (.ref b410), .val (.int (own_nf3 v0 v1 v2)), .val (.int (3 : Int32)), .unset, .unset] [(.int (1 : Int32)), (.int (own_nf3 v0 v1 v2))])) := fun tq kq => G466 tq (by
        refine XS.ifYes X461.here hx rfl (pc0 := 26) (pc' := 33) rfl (hb hby d3_26) rfl ((if0 _ _).trans (teq hc468).1) (by decide) (by decide) ?_
        show Steps p.tables e below (T461.setTop (mkF m 33 #[.val (.ref a), .val (.ref b410), .val (.int (own_nf3 v0 v1 v2)), .val (.int (3 : Int32)), .unset, .unset] [(.int (own_nf3 v0 v1 v2))])) _
        refine XS.iconst X461.here hx rfl (hb hby d3_33) ?_
        show Steps p.tables e below (T461.setTop (mkF m 34 #[.val (.ref a), .val (.ref b410), .val (.int (own_nf3 v0 v1 v2)), .val (.int (3 : Int32)), .unset, .unset] [(.int (1 : Int32)), (.int (own_nf3 v0 v1 v2))])) _
        exact kq)
      exact ⟨(1 : Int32), (by simp [own_z, own_b, hc468]), G469⟩
    · have G470 : Go p e below A0 (T461.setTop (mkF m 34 #[.val (.ref a), .val (.ref b410), .val (.int (own_nf3 v0 v1 v2)), .val (.int (3 : Int32)), .unset, .unset] [(.int (0 : Int32)), (.int (own_nf3 v0 v1 v2))])) := fun tq kq => G466 tq (by
        refine XS.ifNo X461.here hx rfl (hb hby d3_26) rfl ((if0 _ _).trans (feq hc468).1) ?_
        show Steps p.tables e below (T461.setTop (mkF m 29 #[.val (.ref a), .val (.ref b410), .val (.int (own_nf3 v0 v1 v2)), .val (.int (3 : Int32)), .unset, .unset] [(.int (own_nf3 v0 v1 v2))])) _
        refine XS.iconst X461.here hx rfl (hb hby d3_29) ?_
        show Steps p.tables e below (T461.setTop (mkF m 30 #[.val (.ref a), .val (.ref b410), .val (.int (own_nf3 v0 v1 v2)), .val (.int (3 : Int32)), .unset, .unset] [(.int (0 : Int32)), (.int (own_nf3 v0 v1 v2))])) _
        refine XS.goto X461.here hx rfl (pc0 := 30) (pc' := 34) rfl (hb hby d3_30) (by decide) (by decide) ?_
        show Steps p.tables e below (T461.setTop (mkF m 34 #[.val (.ref a), .val (.ref b410), .val (.int (own_nf3 v0 v1 v2)), .val (.int (3 : Int32)), .unset, .unset] [(.int (0 : Int32)), (.int (own_nf3 v0 v1 v2))])) _
        exact kq)
      exact ⟨(0 : Int32), (by simp [own_z, own_b, hc468]), G470⟩
  subst hG467
  have G471 : Go p e below A0 (T461.setTop (mkF m 13 #[.val (.ref a), .val (.ref b410), .val (.int (own_nf4 v0 v1 v2 v3)), .val (.int (4 : Int32)), .unset, .unset] [(.ref a), (.int (4 : Int32))])) := fun tq kq => G467 tq (by
    refine XS.iadd X461.here hx rfl (hb hby d3_34) rfl ?_
    show Steps p.tables e below (T461.setTop (mkF m 35 #[.val (.ref a), .val (.ref b410), .val (.int (own_nf3 v0 v1 v2)), .val (.int (3 : Int32)), .unset, .unset] [(.int ((own_nf3 v0 v1 v2) + (own_z v3)))])) _
    rw [show ((own_nf3 v0 v1 v2) + (own_z v3)) = (own_nf4 v0 v1 v2 v3) from rfl]
    show Steps p.tables e below (T461.setTop (mkF m 35 #[.val (.ref a), .val (.ref b410), .val (.int (own_nf3 v0 v1 v2)), .val (.int (3 : Int32)), .unset, .unset] [(.int (own_nf4 v0 v1 v2 v3))])) _
    refine XS.istoreN X461.here hx rfl (hb hby d3_35) rfl (l' := #[.val (.ref a), .val (.ref b410), .val (.int (own_nf4 v0 v1 v2 v3)), .val (.int (3 : Int32)), .unset, .unset]) rfl ?_
    show Steps p.tables e below (T461.setTop (mkF m 36 #[.val (.ref a), .val (.ref b410), .val (.int (own_nf4 v0 v1 v2 v3)), .val (.int (3 : Int32)), .unset, .unset] [])) _
    refine XS.iinc X461.here hx rfl (hb hby d3_36) rfl (l' := #[.val (.ref a), .val (.ref b410), .val (.int (own_nf4 v0 v1 v2 v3)), .val (.int ((3 : Int32) + (1 : Int32))), .unset, .unset]) rfl ?_
    show Steps p.tables e below (T461.setTop (mkF m 39 #[.val (.ref a), .val (.ref b410), .val (.int (own_nf4 v0 v1 v2 v3)), .val (.int ((3 : Int32) + (1 : Int32))), .unset, .unset] [])) _
    rw [show ((3 : Int32) + (1 : Int32)) = (4 : Int32) from (by decide : ((3 : Int32) + (1 : Int32)) = (4 : Int32))]
    show Steps p.tables e below (T461.setTop (mkF m 39 #[.val (.ref a), .val (.ref b410), .val (.int (own_nf4 v0 v1 v2 v3)), .val (.int (4 : Int32)), .unset, .unset] [])) _
    refine XS.goto X461.here hx rfl (pc0 := 39) (pc' := 11) rfl (hb hby d3_39) (by decide) (by decide) ?_
    show Steps p.tables e below (T461.setTop (mkF m 11 #[.val (.ref a), .val (.ref b410), .val (.int (own_nf4 v0 v1 v2 v3)), .val (.int (4 : Int32)), .unset, .unset] [])) _
    refine XS.iloadN X461.here hx rfl (hb hby d3_11) rfl ?_
    show Steps p.tables e below (T461.setTop (mkF m 12 #[.val (.ref a), .val (.ref b410), .val (.int (own_nf4 v0 v1 v2 v3)), .val (.int (4 : Int32)), .unset, .unset] [(.int (4 : Int32))])) _
    refine XS.aloadN X461.here hx rfl (hb hby d3_12) rfl rfl ?_
    show Steps p.tables e below (T461.setTop (mkF m 13 #[.val (.ref a), .val (.ref b410), .val (.int (own_nf4 v0 v1 v2 v3)), .val (.int (4 : Int32)), .unset, .unset] [(.ref a), (.int (4 : Int32))])) _
    exact kq)
  obtain ⟨T472, X472, e472, st472⟩ := getF X461 hx hZ hown (host := "") (Or.inl (hw _ (List.mem_of_getElem? (i := 28) rfl))) Via.refl e461 f413 (g := (mkF m 13 #[.val (.ref a), .val (.ref b410), .val (.int (own_nf4 v0 v1 v2 v3)), .val (.int (4 : Int32)), .unset, .unset] [(.ref a), (.int (4 : Int32))])) rfl rfl (hb hby d3_13)
  have G473 : Go p e below A0 (T472.setTop (mkF m 16 #[.val (.ref a), .val (.ref b410), .val (.int (own_nf4 v0 v1 v2 v3)), .val (.int (4 : Int32)), .unset, .unset] [(.int (4 : Int32)), (.int (4 : Int32))])) := fun tq kq => G471 tq (st472 _ kq)
  have G474 : Go p e below A0 (T472.setTop (mkF m 53 #[.val (.ref a), .val (.ref b410), .val (.int (own_nf4 v0 v1 v2 v3)), .val (.int (0 : Int32)), .val (.int (own_nf4 v0 v1 v2 v3)), .val (.int (0 : Int32))] [(.ref a), (.int (0 : Int32))])) := fun tq kq => G473 tq (by
    refine XS.icmpYes X472.here hx rfl (pc0 := 16) (pc' := 42) rfl (hb hby d3_16) rfl (by decide) (by decide) (by decide) ?_
    show Steps p.tables e below (T472.setTop (mkF m 42 #[.val (.ref a), .val (.ref b410), .val (.int (own_nf4 v0 v1 v2 v3)), .val (.int (4 : Int32)), .unset, .unset] [])) _
    refine XS.iconst X472.here hx rfl (hb hby d3_42) ?_
    show Steps p.tables e below (T472.setTop (mkF m 43 #[.val (.ref a), .val (.ref b410), .val (.int (own_nf4 v0 v1 v2 v3)), .val (.int (4 : Int32)), .unset, .unset] [(.int (0 : Int32))])) _
    refine XS.istoreN X472.here hx rfl (hb hby d3_43) rfl (l' := #[.val (.ref a), .val (.ref b410), .val (.int (own_nf4 v0 v1 v2 v3)), .val (.int (0 : Int32)), .unset, .unset]) rfl ?_
    show Steps p.tables e below (T472.setTop (mkF m 44 #[.val (.ref a), .val (.ref b410), .val (.int (own_nf4 v0 v1 v2 v3)), .val (.int (0 : Int32)), .unset, .unset] [])) _
    refine XS.iloadN X472.here hx rfl (hb hby d3_44) rfl ?_
    show Steps p.tables e below (T472.setTop (mkF m 45 #[.val (.ref a), .val (.ref b410), .val (.int (own_nf4 v0 v1 v2 v3)), .val (.int (0 : Int32)), .unset, .unset] [(.int (own_nf4 v0 v1 v2 v3))])) _
    refine XS.istore X472.here hx rfl (hb hby d3_45) rfl (l' := #[.val (.ref a), .val (.ref b410), .val (.int (own_nf4 v0 v1 v2 v3)), .val (.int (0 : Int32)), .val (.int (own_nf4 v0 v1 v2 v3)), .unset]) rfl ?_
    show Steps p.tables e below (T472.setTop (mkF m 47 #[.val (.ref a), .val (.ref b410), .val (.int (own_nf4 v0 v1 v2 v3)), .val (.int (0 : Int32)), .val (.int (own_nf4 v0 v1 v2 v3)), .unset] [])) _
    refine XS.iconst X472.here hx rfl (hb hby d3_47) ?_
    show Steps p.tables e below (T472.setTop (mkF m 48 #[.val (.ref a), .val (.ref b410), .val (.int (own_nf4 v0 v1 v2 v3)), .val (.int (0 : Int32)), .val (.int (own_nf4 v0 v1 v2 v3)), .unset] [(.int (0 : Int32))])) _
    refine XS.istore X472.here hx rfl (hb hby d3_48) rfl (l' := #[.val (.ref a), .val (.ref b410), .val (.int (own_nf4 v0 v1 v2 v3)), .val (.int (0 : Int32)), .val (.int (own_nf4 v0 v1 v2 v3)), .val (.int (0 : Int32))]) rfl ?_
    show Steps p.tables e below (T472.setTop (mkF m 50 #[.val (.ref a), .val (.ref b410), .val (.int (own_nf4 v0 v1 v2 v3)), .val (.int (0 : Int32)), .val (.int (own_nf4 v0 v1 v2 v3)), .val (.int (0 : Int32))] [])) _
    refine XS.iload X472.here hx rfl (hb hby d3_50) rfl ?_
    show Steps p.tables e below (T472.setTop (mkF m 52 #[.val (.ref a), .val (.ref b410), .val (.int (own_nf4 v0 v1 v2 v3)), .val (.int (0 : Int32)), .val (.int (own_nf4 v0 v1 v2 v3)), .val (.int (0 : Int32))] [(.int (0 : Int32))])) _
    refine XS.aloadN X472.here hx rfl (hb hby d3_52) rfl rfl ?_
    show Steps p.tables e below (T472.setTop (mkF m 53 #[.val (.ref a), .val (.ref b410), .val (.int (own_nf4 v0 v1 v2 v3)), .val (.int (0 : Int32)), .val (.int (own_nf4 v0 v1 v2 v3)), .val (.int (0 : Int32))] [(.ref a), (.int (0 : Int32))])) _
    exact kq)
  obtain ⟨T475, X475, e475, st475⟩ := getF X472 hx hZ hown (host := "") (Or.inl (hw _ (List.mem_of_getElem? (i := 28) rfl))) Via.refl e472 f413 (g := (mkF m 53 #[.val (.ref a), .val (.ref b410), .val (.int (own_nf4 v0 v1 v2 v3)), .val (.int (0 : Int32)), .val (.int (own_nf4 v0 v1 v2 v3)), .val (.int (0 : Int32))] [(.ref a), (.int (0 : Int32))])) rfl rfl (hb hby d3_53)
  have G476 : Go p e below A0 (T475.setTop (mkF m 56 #[.val (.ref a), .val (.ref b410), .val (.int (own_nf4 v0 v1 v2 v3)), .val (.int (0 : Int32)), .val (.int (own_nf4 v0 v1 v2 v3)), .val (.int (0 : Int32))] [(.int (4 : Int32)), (.int (0 : Int32))])) := fun tq kq => G474 tq (st475 _ kq)
  have G477 : Go p e below A0 (T475.setTop (mkF m 61 #[.val (.ref a), .val (.ref b410), .val (.int (own_nf4 v0 v1 v2 v3)), .val (.int (0 : Int32)), .val (.int (own_nf4 v0 v1 v2 v3)), .val (.int (0 : Int32))] [(.ref a), (.ref b410)])) := fun tq kq => G476 tq (by
    refine XS.icmpNo X475.here hx rfl (hb hby d3_56) rfl (by decide) ?_
    show Steps p.tables e below (T475.setTop (mkF m 59 #[.val (.ref a), .val (.ref b410), .val (.int (own_nf4 v0 v1 v2 v3)), .val (.int (0 : Int32)), .val (.int (own_nf4 v0 v1 v2 v3)), .val (.int (0 : Int32))] [])) _
    refine XS.aloadN X475.here hx rfl (hb hby d3_59) rfl rfl ?_
    show Steps p.tables e below (T475.setTop (mkF m 60 #[.val (.ref a), .val (.ref b410), .val (.int (own_nf4 v0 v1 v2 v3)), .val (.int (0 : Int32)), .val (.int (own_nf4 v0 v1 v2 v3)), .val (.int (0 : Int32))] [(.ref b410)])) _
    refine XS.aloadN X475.here hx rfl (hb hby d3_60) rfl rfl ?_
    show Steps p.tables e below (T475.setTop (mkF m 61 #[.val (.ref a), .val (.ref b410), .val (.int (own_nf4 v0 v1 v2 v3)), .val (.int (0 : Int32)), .val (.int (own_nf4 v0 v1 v2 v3)), .val (.int (0 : Int32))] [(.ref a), (.ref b410)])) _
    exact kq)
  obtain ⟨T478, X478, e478, st478⟩ := getF X475 hx hZ hown (host := "") (Or.inl (hw _ (List.mem_of_getElem? (i := 19) rfl))) Via.refl e475 f417 (g := (mkF m 61 #[.val (.ref a), .val (.ref b410), .val (.int (own_nf4 v0 v1 v2 v3)), .val (.int (0 : Int32)), .val (.int (own_nf4 v0 v1 v2 v3)), .val (.int (0 : Int32))] [(.ref a), (.ref b410)])) rfl rfl (hb hby d3_61)
  have G479 : Go p e below A0 (T478.setTop (mkF m 64 #[.val (.ref a), .val (.ref b410), .val (.int (own_nf4 v0 v1 v2 v3)), .val (.int (0 : Int32)), .val (.int (own_nf4 v0 v1 v2 v3)), .val (.int (0 : Int32))] [(.ref b), (.ref b410)])) := fun tq kq => G477 tq (st478 _ kq)
  have G480 : Go p e below A0 (T478.setTop (mkF m 66 #[.val (.ref a), .val (.ref b410), .val (.int (own_nf4 v0 v1 v2 v3)), .val (.int (0 : Int32)), .val (.int (own_nf4 v0 v1 v2 v3)), .val (.int (0 : Int32))] [(.int (0 : Int32)), (.ref b), (.ref b410)])) := fun tq kq => G479 tq (by
    refine XS.iload X478.here hx rfl (hb hby d3_64) rfl ?_
    show Steps p.tables e below (T478.setTop (mkF m 66 #[.val (.ref a), .val (.ref b410), .val (.int (own_nf4 v0 v1 v2 v3)), .val (.int (0 : Int32)), .val (.int (own_nf4 v0 v1 v2 v3)), .val (.int (0 : Int32))] [(.int (0 : Int32)), (.ref b), (.ref b410)])) _
    exact kq)
  obtain ⟨cl481, Ar481, q481, S481, M481, H481, Gf481⟩ := id f421
  have hi482 : ¬ ((0 : Int32) < 0 ∨ cl481.slots.size ≤ ((0 : Int32)).toNatClampNeg) := (inb_of S481 ⟨by decide, by decide⟩)
  have G483 : Go p e below A0 (T478.setTop (mkF m 67 #[.val (.ref a), .val (.ref b410), .val (.int (own_nf4 v0 v1 v2 v3)), .val (.int (0 : Int32)), .val (.int (own_nf4 v0 v1 v2 v3)), .val (.int (0 : Int32))] [(.int v0), (.ref b410)])) := fun tq kq => G480 tq (by
    refine X478.baloadBooleans hx (j := (0 : Int32)) (v := (.int v0)) (by rw [e478]; exact Ar481.1) (State.isArrayOf_alike hZ.alike Ar481.2.1) Ar481.2.2 hi482 (H481.at hi482 rfl) (g := (mkF m 66 #[.val (.ref a), .val (.ref b410), .val (.int (own_nf4 v0 v1 v2 v3)), .val (.int (0 : Int32)), .val (.int (own_nf4 v0 v1 v2 v3)), .val (.int (0 : Int32))] [(.int (0 : Int32)), (.ref b), (.ref b410)])) rfl rfl (hb hby d3_66) _ ?_
    show Steps p.tables e below (T478.setTop (mkF m 67 #[.val (.ref a), .val (.ref b410), .val (.int (own_nf4 v0 v1 v2 v3)), .val (.int (0 : Int32)), .val (.int (own_nf4 v0 v1 v2 v3)), .val (.int (0 : Int32))] [(.int v0), (.ref b410)])) _
    exact kq)
  obtain ⟨x0, y0, z0, hG484, G484⟩ : ∃ (x0 : Int32) (y0 : Int32) (z0 : Int32), (x0 = (own_ix4_0 v0 v1 v2 v3) ∧ y0 = (own_nf1 v0) ∧ z0 = (own_nt4_1 v0 v1 v2 v3)) ∧ Go p e below A0 (T478.setTop (mkF m 82 #[.val (.ref a), .val (.ref b410), .val (.int (own_nf4 v0 v1 v2 v3)), .val (.int y0), .val (.int z0), .val (.int (0 : Int32))] [(.int x0), (.ref b410)])) := by
    by_cases hc485 : v0 = (0 : Int32)
    · have G486 : Go p e below A0 (T478.setTop (mkF m 82 #[.val (.ref a), .val (.ref b410), .val (.int (own_nf4 v0 v1 v2 v3)), .val (.int (1 : Int32)), .val (.int (own_nf4 v0 v1 v2 v3)), .val (.int (0 : Int32))] [(.int (0 : Int32)), (.ref b410)])) := fun tq kq => G483 tq (by
        refine XS.ifYes X478.here hx rfl (pc0 := 67) (pc' := 78) rfl (hb hby d3_67) rfl ((if0 _ _).trans (teq hc485).1) (by decide) (by decide) ?_
        show Steps p.tables e below (T478.setTop (mkF m 78 #[.val (.ref a), .val (.ref b410), .val (.int (own_nf4 v0 v1 v2 v3)), .val (.int (0 : Int32)), .val (.int (own_nf4 v0 v1 v2 v3)), .val (.int (0 : Int32))] [(.ref b410)])) _
        refine XS.iloadN X478.here hx rfl (hb hby d3_78) rfl ?_
        show Steps p.tables e below (T478.setTop (mkF m 79 #[.val (.ref a), .val (.ref b410), .val (.int (own_nf4 v0 v1 v2 v3)), .val (.int (0 : Int32)), .val (.int (own_nf4 v0 v1 v2 v3)), .val (.int (0 : Int32))] [(.int (0 : Int32)), (.ref b410)])) _
        refine XS.iinc X478.here hx rfl (hb hby d3_79) rfl (l' := #[.val (.ref a), .val (.ref b410), .val (.int (own_nf4 v0 v1 v2 v3)), .val (.int ((0 : Int32) + (1 : Int32))), .val (.int (own_nf4 v0 v1 v2 v3)), .val (.int (0 : Int32))]) rfl ?_
        show Steps p.tables e below (T478.setTop (mkF m 82 #[.val (.ref a), .val (.ref b410), .val (.int (own_nf4 v0 v1 v2 v3)), .val (.int ((0 : Int32) + (1 : Int32))), .val (.int (own_nf4 v0 v1 v2 v3)), .val (.int (0 : Int32))] [(.int (0 : Int32)), (.ref b410)])) _
        rw [show ((0 : Int32) + (1 : Int32)) = (1 : Int32) from (by decide : ((0 : Int32) + (1 : Int32)) = (1 : Int32))]
        show Steps p.tables e below (T478.setTop (mkF m 82 #[.val (.ref a), .val (.ref b410), .val (.int (own_nf4 v0 v1 v2 v3)), .val (.int (1 : Int32)), .val (.int (own_nf4 v0 v1 v2 v3)), .val (.int (0 : Int32))] [(.int (0 : Int32)), (.ref b410)])) _
        exact kq)
      exact ⟨(0 : Int32), (1 : Int32), (own_nf4 v0 v1 v2 v3), (by exact ⟨(if_pos hc485).symm, (congrArg (fun q => (0 : Int32) + q) (own_bt hc485)).symm, ((congrArg (fun q => (own_nf4 v0 v1 v2 v3) + q) (own_b0 (fun q => q hc485))).trans (Int32.add_zero _)).symm⟩), G486⟩
    · have G487 : Go p e below A0 (T478.setTop (mkF m 82 #[.val (.ref a), .val (.ref b410), .val (.int (own_nf4 v0 v1 v2 v3)), .val (.int (0 : Int32)), .val (.int ((own_nf4 v0 v1 v2 v3) + (1 : Int32))), .val (.int (0 : Int32))] [(.int (own_nf4 v0 v1 v2 v3)), (.ref b410)])) := fun tq kq => G483 tq (by
        refine XS.ifNo X478.here hx rfl (hb hby d3_67) rfl ((if0 _ _).trans (feq hc485).1) ?_
        show Steps p.tables e below (T478.setTop (mkF m 70 #[.val (.ref a), .val (.ref b410), .val (.int (own_nf4 v0 v1 v2 v3)), .val (.int (0 : Int32)), .val (.int (own_nf4 v0 v1 v2 v3)), .val (.int (0 : Int32))] [(.ref b410)])) _
        refine XS.iload X478.here hx rfl (hb hby d3_70) rfl ?_
        show Steps p.tables e below (T478.setTop (mkF m 72 #[.val (.ref a), .val (.ref b410), .val (.int (own_nf4 v0 v1 v2 v3)), .val (.int (0 : Int32)), .val (.int (own_nf4 v0 v1 v2 v3)), .val (.int (0 : Int32))] [(.int (own_nf4 v0 v1 v2 v3)), (.ref b410)])) _
        refine XS.iinc X478.here hx rfl (hb hby d3_72) rfl (l' := #[.val (.ref a), .val (.ref b410), .val (.int (own_nf4 v0 v1 v2 v3)), .val (.int (0 : Int32)), .val (.int ((own_nf4 v0 v1 v2 v3) + (1 : Int32))), .val (.int (0 : Int32))]) rfl ?_
        show Steps p.tables e below (T478.setTop (mkF m 75 #[.val (.ref a), .val (.ref b410), .val (.int (own_nf4 v0 v1 v2 v3)), .val (.int (0 : Int32)), .val (.int ((own_nf4 v0 v1 v2 v3) + (1 : Int32))), .val (.int (0 : Int32))] [(.int (own_nf4 v0 v1 v2 v3)), (.ref b410)])) _
        refine XS.goto X478.here hx rfl (pc0 := 75) (pc' := 82) rfl (hb hby d3_75) (by decide) (by decide) ?_
        show Steps p.tables e below (T478.setTop (mkF m 82 #[.val (.ref a), .val (.ref b410), .val (.int (own_nf4 v0 v1 v2 v3)), .val (.int (0 : Int32)), .val (.int ((own_nf4 v0 v1 v2 v3) + (1 : Int32))), .val (.int (0 : Int32))] [(.int (own_nf4 v0 v1 v2 v3)), (.ref b410)])) _
        exact kq)
      exact ⟨(own_nf4 v0 v1 v2 v3), (0 : Int32), ((own_nf4 v0 v1 v2 v3) + (1 : Int32)), (by exact ⟨(if_neg hc485).symm, ((congrArg (fun q => (0 : Int32) + q) (own_b0 hc485)).trans (Int32.add_zero _)).symm, (congrArg (fun q => (own_nf4 v0 v1 v2 v3) + q) (own_bt hc485)).symm⟩), G487⟩
  obtain ⟨rfl, rfl, rfl⟩ := hG484
  have G488 : Go p e below A0 (T478.setTop (mkF m 84 #[.val (.ref a), .val (.ref b410), .val (.int (own_nf4 v0 v1 v2 v3)), .val (.int (own_nf1 v0)), .val (.int (own_nt4_1 v0 v1 v2 v3)), .val (.int (0 : Int32))] [(.int (0 : Int32)), (.int (own_ix4_0 v0 v1 v2 v3)), (.ref b410)])) := fun tq kq => G484 tq (by
    refine XS.iload X478.here hx rfl (hb hby d3_82) rfl ?_
    show Steps p.tables e below (T478.setTop (mkF m 84 #[.val (.ref a), .val (.ref b410), .val (.int (own_nf4 v0 v1 v2 v3)), .val (.int (own_nf1 v0)), .val (.int (own_nt4_1 v0 v1 v2 v3)), .val (.int (0 : Int32))] [(.int (0 : Int32)), (.int (own_ix4_0 v0 v1 v2 v3)), (.ref b410)])) _
    exact kq)
  obtain ⟨cl489, Ar489, q489, S489, M489, H489⟩ := id Af0
  have hi490 : ¬ ((own_ix4_0 v0 v1 v2 v3) < 0 ∨ cl489.slots.size ≤ ((own_ix4_0 v0 v1 v2 v3)).toNatClampNeg) := (inb_of S489 (own_idx_4_0 v0 v1 v2 v3 hb0 hb1 hb2 hb3))
  obtain ⟨T491, h491, X491, e491, W491, st491⟩ := stI X478 hx hZ e478 Ar489 (j := (own_ix4_0 v0 v1 v2 v3)) hi490 (g := (mkF m 84 #[.val (.ref a), .val (.ref b410), .val (.int (own_nf4 v0 v1 v2 v3)), .val (.int (own_nf1 v0)), .val (.int (own_nt4_1 v0 v1 v2 v3)), .val (.int (0 : Int32))] [(.int (0 : Int32)), (.int (own_ix4_0 v0 v1 v2 v3)), (.ref b410)])) rfl rfl (hb hby d3_84)
  have N491 := Fr.snoc X491 N0 g_b410
  have V491 : Af Z h491 b410 k410 .int (4 : Int32) (fun i => if i = ((own_ix4_0 v0 v1 v2 v3)).toNatClampNeg then (.int (0 : Int32)) else ((own_g4_0 v0 v1 v2 v3)) i) := Af.set Ar489 q489 S489 M489 H489 W491 hi490
  have V491' : Af Z h491 b410 k410 .int (4 : Int32) (own_g4_1 v0 v1 v2 v3) := V491.fn (fun _ _ => rfl)
  have G492 : Go p e below A0 (T491.setTop (mkF m 85 #[.val (.ref a), .val (.ref b410), .val (.int (own_nf4 v0 v1 v2 v3)), .val (.int (own_nf1 v0)), .val (.int (own_nt4_1 v0 v1 v2 v3)), .val (.int (0 : Int32))] [])) := fun tq kq => G488 tq (st491 _ kq)
  have G493 : Go p e below A0 (T491.setTop (mkF m 53 #[.val (.ref a), .val (.ref b410), .val (.int (own_nf4 v0 v1 v2 v3)), .val (.int (own_nf1 v0)), .val (.int (own_nt4_1 v0 v1 v2 v3)), .val (.int (1 : Int32))] [(.ref a), (.int (1 : Int32))])) := fun tq kq => G492 tq (by
    refine XS.iinc X491.here hx rfl (hb hby d3_85) rfl (l' := #[.val (.ref a), .val (.ref b410), .val (.int (own_nf4 v0 v1 v2 v3)), .val (.int (own_nf1 v0)), .val (.int (own_nt4_1 v0 v1 v2 v3)), .val (.int ((0 : Int32) + (1 : Int32)))]) rfl ?_
    show Steps p.tables e below (T491.setTop (mkF m 88 #[.val (.ref a), .val (.ref b410), .val (.int (own_nf4 v0 v1 v2 v3)), .val (.int (own_nf1 v0)), .val (.int (own_nt4_1 v0 v1 v2 v3)), .val (.int ((0 : Int32) + (1 : Int32)))] [])) _
    rw [show ((0 : Int32) + (1 : Int32)) = (1 : Int32) from (by decide : ((0 : Int32) + (1 : Int32)) = (1 : Int32))]
    show Steps p.tables e below (T491.setTop (mkF m 88 #[.val (.ref a), .val (.ref b410), .val (.int (own_nf4 v0 v1 v2 v3)), .val (.int (own_nf1 v0)), .val (.int (own_nt4_1 v0 v1 v2 v3)), .val (.int (1 : Int32))] [])) _
    refine XS.goto X491.here hx rfl (pc0 := 88) (pc' := 50) rfl (hb hby d3_88) (by decide) (by decide) ?_
    show Steps p.tables e below (T491.setTop (mkF m 50 #[.val (.ref a), .val (.ref b410), .val (.int (own_nf4 v0 v1 v2 v3)), .val (.int (own_nf1 v0)), .val (.int (own_nt4_1 v0 v1 v2 v3)), .val (.int (1 : Int32))] [])) _
    refine XS.iload X491.here hx rfl (hb hby d3_50) rfl ?_
    show Steps p.tables e below (T491.setTop (mkF m 52 #[.val (.ref a), .val (.ref b410), .val (.int (own_nf4 v0 v1 v2 v3)), .val (.int (own_nf1 v0)), .val (.int (own_nt4_1 v0 v1 v2 v3)), .val (.int (1 : Int32))] [(.int (1 : Int32))])) _
    refine XS.aloadN X491.here hx rfl (hb hby d3_52) rfl rfl ?_
    show Steps p.tables e below (T491.setTop (mkF m 53 #[.val (.ref a), .val (.ref b410), .val (.int (own_nf4 v0 v1 v2 v3)), .val (.int (own_nf1 v0)), .val (.int (own_nt4_1 v0 v1 v2 v3)), .val (.int (1 : Int32))] [(.ref a), (.int (1 : Int32))])) _
    exact kq)
  have f494 := (f413.other W491 (Or.inl ne_a_b410))
  obtain ⟨T495, X495, e495, st495⟩ := getF X491 hx hZ hown (host := "") (Or.inl (hw _ (List.mem_of_getElem? (i := 28) rfl))) Via.refl e491 f494 (g := (mkF m 53 #[.val (.ref a), .val (.ref b410), .val (.int (own_nf4 v0 v1 v2 v3)), .val (.int (own_nf1 v0)), .val (.int (own_nt4_1 v0 v1 v2 v3)), .val (.int (1 : Int32))] [(.ref a), (.int (1 : Int32))])) rfl rfl (hb hby d3_53)
  have G496 : Go p e below A0 (T495.setTop (mkF m 56 #[.val (.ref a), .val (.ref b410), .val (.int (own_nf4 v0 v1 v2 v3)), .val (.int (own_nf1 v0)), .val (.int (own_nt4_1 v0 v1 v2 v3)), .val (.int (1 : Int32))] [(.int (4 : Int32)), (.int (1 : Int32))])) := fun tq kq => G493 tq (st495 _ kq)
  have G497 : Go p e below A0 (T495.setTop (mkF m 61 #[.val (.ref a), .val (.ref b410), .val (.int (own_nf4 v0 v1 v2 v3)), .val (.int (own_nf1 v0)), .val (.int (own_nt4_1 v0 v1 v2 v3)), .val (.int (1 : Int32))] [(.ref a), (.ref b410)])) := fun tq kq => G496 tq (by
    refine XS.icmpNo X495.here hx rfl (hb hby d3_56) rfl (by decide) ?_
    show Steps p.tables e below (T495.setTop (mkF m 59 #[.val (.ref a), .val (.ref b410), .val (.int (own_nf4 v0 v1 v2 v3)), .val (.int (own_nf1 v0)), .val (.int (own_nt4_1 v0 v1 v2 v3)), .val (.int (1 : Int32))] [])) _
    refine XS.aloadN X495.here hx rfl (hb hby d3_59) rfl rfl ?_
    show Steps p.tables e below (T495.setTop (mkF m 60 #[.val (.ref a), .val (.ref b410), .val (.int (own_nf4 v0 v1 v2 v3)), .val (.int (own_nf1 v0)), .val (.int (own_nt4_1 v0 v1 v2 v3)), .val (.int (1 : Int32))] [(.ref b410)])) _
    refine XS.aloadN X495.here hx rfl (hb hby d3_60) rfl rfl ?_
    show Steps p.tables e below (T495.setTop (mkF m 61 #[.val (.ref a), .val (.ref b410), .val (.int (own_nf4 v0 v1 v2 v3)), .val (.int (own_nf1 v0)), .val (.int (own_nt4_1 v0 v1 v2 v3)), .val (.int (1 : Int32))] [(.ref a), (.ref b410)])) _
    exact kq)
  have f498 := (f417.other W491 (Or.inl ne_a_b410))
  obtain ⟨T499, X499, e499, st499⟩ := getF X495 hx hZ hown (host := "") (Or.inl (hw _ (List.mem_of_getElem? (i := 19) rfl))) Via.refl e495 f498 (g := (mkF m 61 #[.val (.ref a), .val (.ref b410), .val (.int (own_nf4 v0 v1 v2 v3)), .val (.int (own_nf1 v0)), .val (.int (own_nt4_1 v0 v1 v2 v3)), .val (.int (1 : Int32))] [(.ref a), (.ref b410)])) rfl rfl (hb hby d3_61)
  have G500 : Go p e below A0 (T499.setTop (mkF m 64 #[.val (.ref a), .val (.ref b410), .val (.int (own_nf4 v0 v1 v2 v3)), .val (.int (own_nf1 v0)), .val (.int (own_nt4_1 v0 v1 v2 v3)), .val (.int (1 : Int32))] [(.ref b), (.ref b410)])) := fun tq kq => G497 tq (st499 _ kq)
  have G501 : Go p e below A0 (T499.setTop (mkF m 66 #[.val (.ref a), .val (.ref b410), .val (.int (own_nf4 v0 v1 v2 v3)), .val (.int (own_nf1 v0)), .val (.int (own_nt4_1 v0 v1 v2 v3)), .val (.int (1 : Int32))] [(.int (1 : Int32)), (.ref b), (.ref b410)])) := fun tq kq => G500 tq (by
    refine XS.iload X499.here hx rfl (hb hby d3_64) rfl ?_
    show Steps p.tables e below (T499.setTop (mkF m 66 #[.val (.ref a), .val (.ref b410), .val (.int (own_nf4 v0 v1 v2 v3)), .val (.int (own_nf1 v0)), .val (.int (own_nt4_1 v0 v1 v2 v3)), .val (.int (1 : Int32))] [(.int (1 : Int32)), (.ref b), (.ref b410)])) _
    exact kq)
  have f502 := (f421.other W491 ne_b_b410)
  obtain ⟨cl503, Ar503, q503, S503, M503, H503, Gf503⟩ := id f502
  have hi504 : ¬ ((1 : Int32) < 0 ∨ cl503.slots.size ≤ ((1 : Int32)).toNatClampNeg) := (inb_of S503 ⟨by decide, by decide⟩)
  have G505 : Go p e below A0 (T499.setTop (mkF m 67 #[.val (.ref a), .val (.ref b410), .val (.int (own_nf4 v0 v1 v2 v3)), .val (.int (own_nf1 v0)), .val (.int (own_nt4_1 v0 v1 v2 v3)), .val (.int (1 : Int32))] [(.int v1), (.ref b410)])) := fun tq kq => G501 tq (by
    refine X499.baloadBooleans hx (j := (1 : Int32)) (v := (.int v1)) (by rw [e499]; exact Ar503.1) (State.isArrayOf_alike hZ.alike Ar503.2.1) Ar503.2.2 hi504 (H503.at hi504 rfl) (g := (mkF m 66 #[.val (.ref a), .val (.ref b410), .val (.int (own_nf4 v0 v1 v2 v3)), .val (.int (own_nf1 v0)), .val (.int (own_nt4_1 v0 v1 v2 v3)), .val (.int (1 : Int32))] [(.int (1 : Int32)), (.ref b), (.ref b410)])) rfl rfl (hb hby d3_66) _ ?_
    show Steps p.tables e below (T499.setTop (mkF m 67 #[.val (.ref a), .val (.ref b410), .val (.int (own_nf4 v0 v1 v2 v3)), .val (.int (own_nf1 v0)), .val (.int (own_nt4_1 v0 v1 v2 v3)), .val (.int (1 : Int32))] [(.int v1), (.ref b410)])) _
    exact kq)
  obtain ⟨x1, y1, z1, hG506, G506⟩ : ∃ (x1 : Int32) (y1 : Int32) (z1 : Int32), (x1 = (own_ix4_1 v0 v1 v2 v3) ∧ y1 = (own_nf2 v0 v1) ∧ z1 = (own_nt4_2 v0 v1 v2 v3)) ∧ Go p e below A0 (T499.setTop (mkF m 82 #[.val (.ref a), .val (.ref b410), .val (.int (own_nf4 v0 v1 v2 v3)), .val (.int y1), .val (.int z1), .val (.int (1 : Int32))] [(.int x1), (.ref b410)])) := by
    by_cases hc507 : v1 = (0 : Int32)
    · have G508 : Go p e below A0 (T499.setTop (mkF m 82 #[.val (.ref a), .val (.ref b410), .val (.int (own_nf4 v0 v1 v2 v3)), .val (.int ((own_nf1 v0) + (1 : Int32))), .val (.int (own_nt4_1 v0 v1 v2 v3)), .val (.int (1 : Int32))] [(.int (own_nf1 v0)), (.ref b410)])) := fun tq kq => G505 tq (by
        refine XS.ifYes X499.here hx rfl (pc0 := 67) (pc' := 78) rfl (hb hby d3_67) rfl ((if0 _ _).trans (teq hc507).1) (by decide) (by decide) ?_
        show Steps p.tables e below (T499.setTop (mkF m 78 #[.val (.ref a), .val (.ref b410), .val (.int (own_nf4 v0 v1 v2 v3)), .val (.int (own_nf1 v0)), .val (.int (own_nt4_1 v0 v1 v2 v3)), .val (.int (1 : Int32))] [(.ref b410)])) _
        refine XS.iloadN X499.here hx rfl (hb hby d3_78) rfl ?_
        show Steps p.tables e below (T499.setTop (mkF m 79 #[.val (.ref a), .val (.ref b410), .val (.int (own_nf4 v0 v1 v2 v3)), .val (.int (own_nf1 v0)), .val (.int (own_nt4_1 v0 v1 v2 v3)), .val (.int (1 : Int32))] [(.int (own_nf1 v0)), (.ref b410)])) _
        refine XS.iinc X499.here hx rfl (hb hby d3_79) rfl (l' := #[.val (.ref a), .val (.ref b410), .val (.int (own_nf4 v0 v1 v2 v3)), .val (.int ((own_nf1 v0) + (1 : Int32))), .val (.int (own_nt4_1 v0 v1 v2 v3)), .val (.int (1 : Int32))]) rfl ?_
        show Steps p.tables e below (T499.setTop (mkF m 82 #[.val (.ref a), .val (.ref b410), .val (.int (own_nf4 v0 v1 v2 v3)), .val (.int ((own_nf1 v0) + (1 : Int32))), .val (.int (own_nt4_1 v0 v1 v2 v3)), .val (.int (1 : Int32))] [(.int (own_nf1 v0)), (.ref b410)])) _
        exact kq)
      exact ⟨(own_nf1 v0), ((own_nf1 v0) + (1 : Int32)), (own_nt4_1 v0 v1 v2 v3), (by exact ⟨(if_pos hc507).symm, (congrArg (fun q => (own_nf1 v0) + q) (own_bt hc507)).symm, ((congrArg (fun q => (own_nt4_1 v0 v1 v2 v3) + q) (own_b0 (fun q => q hc507))).trans (Int32.add_zero _)).symm⟩), G508⟩
    · have G509 : Go p e below A0 (T499.setTop (mkF m 82 #[.val (.ref a), .val (.ref b410), .val (.int (own_nf4 v0 v1 v2 v3)), .val (.int (own_nf1 v0)), .val (.int ((own_nt4_1 v0 v1 v2 v3) + (1 : Int32))), .val (.int (1 : Int32))] [(.int (own_nt4_1 v0 v1 v2 v3)), (.ref b410)])) := fun tq kq => G505 tq (by
        refine XS.ifNo X499.here hx rfl (hb hby d3_67) rfl ((if0 _ _).trans (feq hc507).1) ?_
        show Steps p.tables e below (T499.setTop (mkF m 70 #[.val (.ref a), .val (.ref b410), .val (.int (own_nf4 v0 v1 v2 v3)), .val (.int (own_nf1 v0)), .val (.int (own_nt4_1 v0 v1 v2 v3)), .val (.int (1 : Int32))] [(.ref b410)])) _
        refine XS.iload X499.here hx rfl (hb hby d3_70) rfl ?_
        show Steps p.tables e below (T499.setTop (mkF m 72 #[.val (.ref a), .val (.ref b410), .val (.int (own_nf4 v0 v1 v2 v3)), .val (.int (own_nf1 v0)), .val (.int (own_nt4_1 v0 v1 v2 v3)), .val (.int (1 : Int32))] [(.int (own_nt4_1 v0 v1 v2 v3)), (.ref b410)])) _
        refine XS.iinc X499.here hx rfl (hb hby d3_72) rfl (l' := #[.val (.ref a), .val (.ref b410), .val (.int (own_nf4 v0 v1 v2 v3)), .val (.int (own_nf1 v0)), .val (.int ((own_nt4_1 v0 v1 v2 v3) + (1 : Int32))), .val (.int (1 : Int32))]) rfl ?_
        show Steps p.tables e below (T499.setTop (mkF m 75 #[.val (.ref a), .val (.ref b410), .val (.int (own_nf4 v0 v1 v2 v3)), .val (.int (own_nf1 v0)), .val (.int ((own_nt4_1 v0 v1 v2 v3) + (1 : Int32))), .val (.int (1 : Int32))] [(.int (own_nt4_1 v0 v1 v2 v3)), (.ref b410)])) _
        refine XS.goto X499.here hx rfl (pc0 := 75) (pc' := 82) rfl (hb hby d3_75) (by decide) (by decide) ?_
        show Steps p.tables e below (T499.setTop (mkF m 82 #[.val (.ref a), .val (.ref b410), .val (.int (own_nf4 v0 v1 v2 v3)), .val (.int (own_nf1 v0)), .val (.int ((own_nt4_1 v0 v1 v2 v3) + (1 : Int32))), .val (.int (1 : Int32))] [(.int (own_nt4_1 v0 v1 v2 v3)), (.ref b410)])) _
        exact kq)
      exact ⟨(own_nt4_1 v0 v1 v2 v3), (own_nf1 v0), ((own_nt4_1 v0 v1 v2 v3) + (1 : Int32)), (by exact ⟨(if_neg hc507).symm, ((congrArg (fun q => (own_nf1 v0) + q) (own_b0 hc507)).trans (Int32.add_zero _)).symm, (congrArg (fun q => (own_nt4_1 v0 v1 v2 v3) + q) (own_bt hc507)).symm⟩), G509⟩
  obtain ⟨rfl, rfl, rfl⟩ := hG506
  have G510 : Go p e below A0 (T499.setTop (mkF m 84 #[.val (.ref a), .val (.ref b410), .val (.int (own_nf4 v0 v1 v2 v3)), .val (.int (own_nf2 v0 v1)), .val (.int (own_nt4_2 v0 v1 v2 v3)), .val (.int (1 : Int32))] [(.int (1 : Int32)), (.int (own_ix4_1 v0 v1 v2 v3)), (.ref b410)])) := fun tq kq => G506 tq (by
    refine XS.iload X499.here hx rfl (hb hby d3_82) rfl ?_
    show Steps p.tables e below (T499.setTop (mkF m 84 #[.val (.ref a), .val (.ref b410), .val (.int (own_nf4 v0 v1 v2 v3)), .val (.int (own_nf2 v0 v1)), .val (.int (own_nt4_2 v0 v1 v2 v3)), .val (.int (1 : Int32))] [(.int (1 : Int32)), (.int (own_ix4_1 v0 v1 v2 v3)), (.ref b410)])) _
    exact kq)
  obtain ⟨cl511, Ar511, q511, S511, M511, H511⟩ := id V491'
  have hi512 : ¬ ((own_ix4_1 v0 v1 v2 v3) < 0 ∨ cl511.slots.size ≤ ((own_ix4_1 v0 v1 v2 v3)).toNatClampNeg) := (inb_of S511 (own_idx_4_1 v0 v1 v2 v3 hb0 hb1 hb2 hb3))
  obtain ⟨T513, h513, X513, e513, W513, st513⟩ := stI X499 hx hZ e499 Ar511 (j := (own_ix4_1 v0 v1 v2 v3)) hi512 (g := (mkF m 84 #[.val (.ref a), .val (.ref b410), .val (.int (own_nf4 v0 v1 v2 v3)), .val (.int (own_nf2 v0 v1)), .val (.int (own_nt4_2 v0 v1 v2 v3)), .val (.int (1 : Int32))] [(.int (1 : Int32)), (.int (own_ix4_1 v0 v1 v2 v3)), (.ref b410)])) rfl rfl (hb hby d3_84)
  have N513 := Fr.snoc X513 N491 g_b410
  have V513 : Af Z h513 b410 k410 .int (4 : Int32) (fun i => if i = ((own_ix4_1 v0 v1 v2 v3)).toNatClampNeg then (.int (1 : Int32)) else ((own_g4_1 v0 v1 v2 v3)) i) := Af.set Ar511 q511 S511 M511 H511 W513 hi512
  have V513' : Af Z h513 b410 k410 .int (4 : Int32) (own_g4_2 v0 v1 v2 v3) := V513.fn (fun _ _ => rfl)
  have G514 : Go p e below A0 (T513.setTop (mkF m 85 #[.val (.ref a), .val (.ref b410), .val (.int (own_nf4 v0 v1 v2 v3)), .val (.int (own_nf2 v0 v1)), .val (.int (own_nt4_2 v0 v1 v2 v3)), .val (.int (1 : Int32))] [])) := fun tq kq => G510 tq (st513 _ kq)
  have G515 : Go p e below A0 (T513.setTop (mkF m 53 #[.val (.ref a), .val (.ref b410), .val (.int (own_nf4 v0 v1 v2 v3)), .val (.int (own_nf2 v0 v1)), .val (.int (own_nt4_2 v0 v1 v2 v3)), .val (.int (2 : Int32))] [(.ref a), (.int (2 : Int32))])) := fun tq kq => G514 tq (by
    refine XS.iinc X513.here hx rfl (hb hby d3_85) rfl (l' := #[.val (.ref a), .val (.ref b410), .val (.int (own_nf4 v0 v1 v2 v3)), .val (.int (own_nf2 v0 v1)), .val (.int (own_nt4_2 v0 v1 v2 v3)), .val (.int ((1 : Int32) + (1 : Int32)))]) rfl ?_
    show Steps p.tables e below (T513.setTop (mkF m 88 #[.val (.ref a), .val (.ref b410), .val (.int (own_nf4 v0 v1 v2 v3)), .val (.int (own_nf2 v0 v1)), .val (.int (own_nt4_2 v0 v1 v2 v3)), .val (.int ((1 : Int32) + (1 : Int32)))] [])) _
    rw [show ((1 : Int32) + (1 : Int32)) = (2 : Int32) from (by decide : ((1 : Int32) + (1 : Int32)) = (2 : Int32))]
    show Steps p.tables e below (T513.setTop (mkF m 88 #[.val (.ref a), .val (.ref b410), .val (.int (own_nf4 v0 v1 v2 v3)), .val (.int (own_nf2 v0 v1)), .val (.int (own_nt4_2 v0 v1 v2 v3)), .val (.int (2 : Int32))] [])) _
    refine XS.goto X513.here hx rfl (pc0 := 88) (pc' := 50) rfl (hb hby d3_88) (by decide) (by decide) ?_
    show Steps p.tables e below (T513.setTop (mkF m 50 #[.val (.ref a), .val (.ref b410), .val (.int (own_nf4 v0 v1 v2 v3)), .val (.int (own_nf2 v0 v1)), .val (.int (own_nt4_2 v0 v1 v2 v3)), .val (.int (2 : Int32))] [])) _
    refine XS.iload X513.here hx rfl (hb hby d3_50) rfl ?_
    show Steps p.tables e below (T513.setTop (mkF m 52 #[.val (.ref a), .val (.ref b410), .val (.int (own_nf4 v0 v1 v2 v3)), .val (.int (own_nf2 v0 v1)), .val (.int (own_nt4_2 v0 v1 v2 v3)), .val (.int (2 : Int32))] [(.int (2 : Int32))])) _
    refine XS.aloadN X513.here hx rfl (hb hby d3_52) rfl rfl ?_
    show Steps p.tables e below (T513.setTop (mkF m 53 #[.val (.ref a), .val (.ref b410), .val (.int (own_nf4 v0 v1 v2 v3)), .val (.int (own_nf2 v0 v1)), .val (.int (own_nt4_2 v0 v1 v2 v3)), .val (.int (2 : Int32))] [(.ref a), (.int (2 : Int32))])) _
    exact kq)
  have f516 := (f494.other W513 (Or.inl ne_a_b410))
  obtain ⟨T517, X517, e517, st517⟩ := getF X513 hx hZ hown (host := "") (Or.inl (hw _ (List.mem_of_getElem? (i := 28) rfl))) Via.refl e513 f516 (g := (mkF m 53 #[.val (.ref a), .val (.ref b410), .val (.int (own_nf4 v0 v1 v2 v3)), .val (.int (own_nf2 v0 v1)), .val (.int (own_nt4_2 v0 v1 v2 v3)), .val (.int (2 : Int32))] [(.ref a), (.int (2 : Int32))])) rfl rfl (hb hby d3_53)
  have G518 : Go p e below A0 (T517.setTop (mkF m 56 #[.val (.ref a), .val (.ref b410), .val (.int (own_nf4 v0 v1 v2 v3)), .val (.int (own_nf2 v0 v1)), .val (.int (own_nt4_2 v0 v1 v2 v3)), .val (.int (2 : Int32))] [(.int (4 : Int32)), (.int (2 : Int32))])) := fun tq kq => G515 tq (st517 _ kq)
  have G519 : Go p e below A0 (T517.setTop (mkF m 61 #[.val (.ref a), .val (.ref b410), .val (.int (own_nf4 v0 v1 v2 v3)), .val (.int (own_nf2 v0 v1)), .val (.int (own_nt4_2 v0 v1 v2 v3)), .val (.int (2 : Int32))] [(.ref a), (.ref b410)])) := fun tq kq => G518 tq (by
    refine XS.icmpNo X517.here hx rfl (hb hby d3_56) rfl (by decide) ?_
    show Steps p.tables e below (T517.setTop (mkF m 59 #[.val (.ref a), .val (.ref b410), .val (.int (own_nf4 v0 v1 v2 v3)), .val (.int (own_nf2 v0 v1)), .val (.int (own_nt4_2 v0 v1 v2 v3)), .val (.int (2 : Int32))] [])) _
    refine XS.aloadN X517.here hx rfl (hb hby d3_59) rfl rfl ?_
    show Steps p.tables e below (T517.setTop (mkF m 60 #[.val (.ref a), .val (.ref b410), .val (.int (own_nf4 v0 v1 v2 v3)), .val (.int (own_nf2 v0 v1)), .val (.int (own_nt4_2 v0 v1 v2 v3)), .val (.int (2 : Int32))] [(.ref b410)])) _
    refine XS.aloadN X517.here hx rfl (hb hby d3_60) rfl rfl ?_
    show Steps p.tables e below (T517.setTop (mkF m 61 #[.val (.ref a), .val (.ref b410), .val (.int (own_nf4 v0 v1 v2 v3)), .val (.int (own_nf2 v0 v1)), .val (.int (own_nt4_2 v0 v1 v2 v3)), .val (.int (2 : Int32))] [(.ref a), (.ref b410)])) _
    exact kq)
  have f520 := (f498.other W513 (Or.inl ne_a_b410))
  obtain ⟨T521, X521, e521, st521⟩ := getF X517 hx hZ hown (host := "") (Or.inl (hw _ (List.mem_of_getElem? (i := 19) rfl))) Via.refl e517 f520 (g := (mkF m 61 #[.val (.ref a), .val (.ref b410), .val (.int (own_nf4 v0 v1 v2 v3)), .val (.int (own_nf2 v0 v1)), .val (.int (own_nt4_2 v0 v1 v2 v3)), .val (.int (2 : Int32))] [(.ref a), (.ref b410)])) rfl rfl (hb hby d3_61)
  have G522 : Go p e below A0 (T521.setTop (mkF m 64 #[.val (.ref a), .val (.ref b410), .val (.int (own_nf4 v0 v1 v2 v3)), .val (.int (own_nf2 v0 v1)), .val (.int (own_nt4_2 v0 v1 v2 v3)), .val (.int (2 : Int32))] [(.ref b), (.ref b410)])) := fun tq kq => G519 tq (st521 _ kq)
  have G523 : Go p e below A0 (T521.setTop (mkF m 66 #[.val (.ref a), .val (.ref b410), .val (.int (own_nf4 v0 v1 v2 v3)), .val (.int (own_nf2 v0 v1)), .val (.int (own_nt4_2 v0 v1 v2 v3)), .val (.int (2 : Int32))] [(.int (2 : Int32)), (.ref b), (.ref b410)])) := fun tq kq => G522 tq (by
    refine XS.iload X521.here hx rfl (hb hby d3_64) rfl ?_
    show Steps p.tables e below (T521.setTop (mkF m 66 #[.val (.ref a), .val (.ref b410), .val (.int (own_nf4 v0 v1 v2 v3)), .val (.int (own_nf2 v0 v1)), .val (.int (own_nt4_2 v0 v1 v2 v3)), .val (.int (2 : Int32))] [(.int (2 : Int32)), (.ref b), (.ref b410)])) _
    exact kq)
  have f524 := (f502.other W513 ne_b_b410)
  obtain ⟨cl525, Ar525, q525, S525, M525, H525, Gf525⟩ := id f524
  have hi526 : ¬ ((2 : Int32) < 0 ∨ cl525.slots.size ≤ ((2 : Int32)).toNatClampNeg) := (inb_of S525 ⟨by decide, by decide⟩)
  have G527 : Go p e below A0 (T521.setTop (mkF m 67 #[.val (.ref a), .val (.ref b410), .val (.int (own_nf4 v0 v1 v2 v3)), .val (.int (own_nf2 v0 v1)), .val (.int (own_nt4_2 v0 v1 v2 v3)), .val (.int (2 : Int32))] [(.int v2), (.ref b410)])) := fun tq kq => G523 tq (by
    refine X521.baloadBooleans hx (j := (2 : Int32)) (v := (.int v2)) (by rw [e521]; exact Ar525.1) (State.isArrayOf_alike hZ.alike Ar525.2.1) Ar525.2.2 hi526 (H525.at hi526 rfl) (g := (mkF m 66 #[.val (.ref a), .val (.ref b410), .val (.int (own_nf4 v0 v1 v2 v3)), .val (.int (own_nf2 v0 v1)), .val (.int (own_nt4_2 v0 v1 v2 v3)), .val (.int (2 : Int32))] [(.int (2 : Int32)), (.ref b), (.ref b410)])) rfl rfl (hb hby d3_66) _ ?_
    show Steps p.tables e below (T521.setTop (mkF m 67 #[.val (.ref a), .val (.ref b410), .val (.int (own_nf4 v0 v1 v2 v3)), .val (.int (own_nf2 v0 v1)), .val (.int (own_nt4_2 v0 v1 v2 v3)), .val (.int (2 : Int32))] [(.int v2), (.ref b410)])) _
    exact kq)
  obtain ⟨x2, y2, z2, hG528, G528⟩ : ∃ (x2 : Int32) (y2 : Int32) (z2 : Int32), (x2 = (own_ix4_2 v0 v1 v2 v3) ∧ y2 = (own_nf3 v0 v1 v2) ∧ z2 = (own_nt4_3 v0 v1 v2 v3)) ∧ Go p e below A0 (T521.setTop (mkF m 82 #[.val (.ref a), .val (.ref b410), .val (.int (own_nf4 v0 v1 v2 v3)), .val (.int y2), .val (.int z2), .val (.int (2 : Int32))] [(.int x2), (.ref b410)])) := by
    by_cases hc529 : v2 = (0 : Int32)
    · have G530 : Go p e below A0 (T521.setTop (mkF m 82 #[.val (.ref a), .val (.ref b410), .val (.int (own_nf4 v0 v1 v2 v3)), .val (.int ((own_nf2 v0 v1) + (1 : Int32))), .val (.int (own_nt4_2 v0 v1 v2 v3)), .val (.int (2 : Int32))] [(.int (own_nf2 v0 v1)), (.ref b410)])) := fun tq kq => G527 tq (by
        refine XS.ifYes X521.here hx rfl (pc0 := 67) (pc' := 78) rfl (hb hby d3_67) rfl ((if0 _ _).trans (teq hc529).1) (by decide) (by decide) ?_
        show Steps p.tables e below (T521.setTop (mkF m 78 #[.val (.ref a), .val (.ref b410), .val (.int (own_nf4 v0 v1 v2 v3)), .val (.int (own_nf2 v0 v1)), .val (.int (own_nt4_2 v0 v1 v2 v3)), .val (.int (2 : Int32))] [(.ref b410)])) _
        refine XS.iloadN X521.here hx rfl (hb hby d3_78) rfl ?_
        show Steps p.tables e below (T521.setTop (mkF m 79 #[.val (.ref a), .val (.ref b410), .val (.int (own_nf4 v0 v1 v2 v3)), .val (.int (own_nf2 v0 v1)), .val (.int (own_nt4_2 v0 v1 v2 v3)), .val (.int (2 : Int32))] [(.int (own_nf2 v0 v1)), (.ref b410)])) _
        refine XS.iinc X521.here hx rfl (hb hby d3_79) rfl (l' := #[.val (.ref a), .val (.ref b410), .val (.int (own_nf4 v0 v1 v2 v3)), .val (.int ((own_nf2 v0 v1) + (1 : Int32))), .val (.int (own_nt4_2 v0 v1 v2 v3)), .val (.int (2 : Int32))]) rfl ?_
        show Steps p.tables e below (T521.setTop (mkF m 82 #[.val (.ref a), .val (.ref b410), .val (.int (own_nf4 v0 v1 v2 v3)), .val (.int ((own_nf2 v0 v1) + (1 : Int32))), .val (.int (own_nt4_2 v0 v1 v2 v3)), .val (.int (2 : Int32))] [(.int (own_nf2 v0 v1)), (.ref b410)])) _
        exact kq)
      exact ⟨(own_nf2 v0 v1), ((own_nf2 v0 v1) + (1 : Int32)), (own_nt4_2 v0 v1 v2 v3), (by exact ⟨(if_pos hc529).symm, (congrArg (fun q => (own_nf2 v0 v1) + q) (own_bt hc529)).symm, ((congrArg (fun q => (own_nt4_2 v0 v1 v2 v3) + q) (own_b0 (fun q => q hc529))).trans (Int32.add_zero _)).symm⟩), G530⟩
    · have G531 : Go p e below A0 (T521.setTop (mkF m 82 #[.val (.ref a), .val (.ref b410), .val (.int (own_nf4 v0 v1 v2 v3)), .val (.int (own_nf2 v0 v1)), .val (.int ((own_nt4_2 v0 v1 v2 v3) + (1 : Int32))), .val (.int (2 : Int32))] [(.int (own_nt4_2 v0 v1 v2 v3)), (.ref b410)])) := fun tq kq => G527 tq (by
        refine XS.ifNo X521.here hx rfl (hb hby d3_67) rfl ((if0 _ _).trans (feq hc529).1) ?_
        show Steps p.tables e below (T521.setTop (mkF m 70 #[.val (.ref a), .val (.ref b410), .val (.int (own_nf4 v0 v1 v2 v3)), .val (.int (own_nf2 v0 v1)), .val (.int (own_nt4_2 v0 v1 v2 v3)), .val (.int (2 : Int32))] [(.ref b410)])) _
        refine XS.iload X521.here hx rfl (hb hby d3_70) rfl ?_
        show Steps p.tables e below (T521.setTop (mkF m 72 #[.val (.ref a), .val (.ref b410), .val (.int (own_nf4 v0 v1 v2 v3)), .val (.int (own_nf2 v0 v1)), .val (.int (own_nt4_2 v0 v1 v2 v3)), .val (.int (2 : Int32))] [(.int (own_nt4_2 v0 v1 v2 v3)), (.ref b410)])) _
        refine XS.iinc X521.here hx rfl (hb hby d3_72) rfl (l' := #[.val (.ref a), .val (.ref b410), .val (.int (own_nf4 v0 v1 v2 v3)), .val (.int (own_nf2 v0 v1)), .val (.int ((own_nt4_2 v0 v1 v2 v3) + (1 : Int32))), .val (.int (2 : Int32))]) rfl ?_
        show Steps p.tables e below (T521.setTop (mkF m 75 #[.val (.ref a), .val (.ref b410), .val (.int (own_nf4 v0 v1 v2 v3)), .val (.int (own_nf2 v0 v1)), .val (.int ((own_nt4_2 v0 v1 v2 v3) + (1 : Int32))), .val (.int (2 : Int32))] [(.int (own_nt4_2 v0 v1 v2 v3)), (.ref b410)])) _
        refine XS.goto X521.here hx rfl (pc0 := 75) (pc' := 82) rfl (hb hby d3_75) (by decide) (by decide) ?_
        show Steps p.tables e below (T521.setTop (mkF m 82 #[.val (.ref a), .val (.ref b410), .val (.int (own_nf4 v0 v1 v2 v3)), .val (.int (own_nf2 v0 v1)), .val (.int ((own_nt4_2 v0 v1 v2 v3) + (1 : Int32))), .val (.int (2 : Int32))] [(.int (own_nt4_2 v0 v1 v2 v3)), (.ref b410)])) _
        exact kq)
      exact ⟨(own_nt4_2 v0 v1 v2 v3), (own_nf2 v0 v1), ((own_nt4_2 v0 v1 v2 v3) + (1 : Int32)), (by exact ⟨(if_neg hc529).symm, ((congrArg (fun q => (own_nf2 v0 v1) + q) (own_b0 hc529)).trans (Int32.add_zero _)).symm, (congrArg (fun q => (own_nt4_2 v0 v1 v2 v3) + q) (own_bt hc529)).symm⟩), G531⟩
  obtain ⟨rfl, rfl, rfl⟩ := hG528
  have G532 : Go p e below A0 (T521.setTop (mkF m 84 #[.val (.ref a), .val (.ref b410), .val (.int (own_nf4 v0 v1 v2 v3)), .val (.int (own_nf3 v0 v1 v2)), .val (.int (own_nt4_3 v0 v1 v2 v3)), .val (.int (2 : Int32))] [(.int (2 : Int32)), (.int (own_ix4_2 v0 v1 v2 v3)), (.ref b410)])) := fun tq kq => G528 tq (by
    refine XS.iload X521.here hx rfl (hb hby d3_82) rfl ?_
    show Steps p.tables e below (T521.setTop (mkF m 84 #[.val (.ref a), .val (.ref b410), .val (.int (own_nf4 v0 v1 v2 v3)), .val (.int (own_nf3 v0 v1 v2)), .val (.int (own_nt4_3 v0 v1 v2 v3)), .val (.int (2 : Int32))] [(.int (2 : Int32)), (.int (own_ix4_2 v0 v1 v2 v3)), (.ref b410)])) _
    exact kq)
  obtain ⟨cl533, Ar533, q533, S533, M533, H533⟩ := id V513'
  have hi534 : ¬ ((own_ix4_2 v0 v1 v2 v3) < 0 ∨ cl533.slots.size ≤ ((own_ix4_2 v0 v1 v2 v3)).toNatClampNeg) := (inb_of S533 (own_idx_4_2 v0 v1 v2 v3 hb0 hb1 hb2 hb3))
  obtain ⟨T535, h535, X535, e535, W535, st535⟩ := stI X521 hx hZ e521 Ar533 (j := (own_ix4_2 v0 v1 v2 v3)) hi534 (g := (mkF m 84 #[.val (.ref a), .val (.ref b410), .val (.int (own_nf4 v0 v1 v2 v3)), .val (.int (own_nf3 v0 v1 v2)), .val (.int (own_nt4_3 v0 v1 v2 v3)), .val (.int (2 : Int32))] [(.int (2 : Int32)), (.int (own_ix4_2 v0 v1 v2 v3)), (.ref b410)])) rfl rfl (hb hby d3_84)
  have N535 := Fr.snoc X535 N513 g_b410
  have V535 : Af Z h535 b410 k410 .int (4 : Int32) (fun i => if i = ((own_ix4_2 v0 v1 v2 v3)).toNatClampNeg then (.int (2 : Int32)) else ((own_g4_2 v0 v1 v2 v3)) i) := Af.set Ar533 q533 S533 M533 H533 W535 hi534
  have V535' : Af Z h535 b410 k410 .int (4 : Int32) (own_g4_3 v0 v1 v2 v3) := V535.fn (fun _ _ => rfl)
  have G536 : Go p e below A0 (T535.setTop (mkF m 85 #[.val (.ref a), .val (.ref b410), .val (.int (own_nf4 v0 v1 v2 v3)), .val (.int (own_nf3 v0 v1 v2)), .val (.int (own_nt4_3 v0 v1 v2 v3)), .val (.int (2 : Int32))] [])) := fun tq kq => G532 tq (st535 _ kq)
  have G537 : Go p e below A0 (T535.setTop (mkF m 53 #[.val (.ref a), .val (.ref b410), .val (.int (own_nf4 v0 v1 v2 v3)), .val (.int (own_nf3 v0 v1 v2)), .val (.int (own_nt4_3 v0 v1 v2 v3)), .val (.int (3 : Int32))] [(.ref a), (.int (3 : Int32))])) := fun tq kq => G536 tq (by
    refine XS.iinc X535.here hx rfl (hb hby d3_85) rfl (l' := #[.val (.ref a), .val (.ref b410), .val (.int (own_nf4 v0 v1 v2 v3)), .val (.int (own_nf3 v0 v1 v2)), .val (.int (own_nt4_3 v0 v1 v2 v3)), .val (.int ((2 : Int32) + (1 : Int32)))]) rfl ?_
    show Steps p.tables e below (T535.setTop (mkF m 88 #[.val (.ref a), .val (.ref b410), .val (.int (own_nf4 v0 v1 v2 v3)), .val (.int (own_nf3 v0 v1 v2)), .val (.int (own_nt4_3 v0 v1 v2 v3)), .val (.int ((2 : Int32) + (1 : Int32)))] [])) _
    rw [show ((2 : Int32) + (1 : Int32)) = (3 : Int32) from (by decide : ((2 : Int32) + (1 : Int32)) = (3 : Int32))]
    show Steps p.tables e below (T535.setTop (mkF m 88 #[.val (.ref a), .val (.ref b410), .val (.int (own_nf4 v0 v1 v2 v3)), .val (.int (own_nf3 v0 v1 v2)), .val (.int (own_nt4_3 v0 v1 v2 v3)), .val (.int (3 : Int32))] [])) _
    refine XS.goto X535.here hx rfl (pc0 := 88) (pc' := 50) rfl (hb hby d3_88) (by decide) (by decide) ?_
    show Steps p.tables e below (T535.setTop (mkF m 50 #[.val (.ref a), .val (.ref b410), .val (.int (own_nf4 v0 v1 v2 v3)), .val (.int (own_nf3 v0 v1 v2)), .val (.int (own_nt4_3 v0 v1 v2 v3)), .val (.int (3 : Int32))] [])) _
    refine XS.iload X535.here hx rfl (hb hby d3_50) rfl ?_
    show Steps p.tables e below (T535.setTop (mkF m 52 #[.val (.ref a), .val (.ref b410), .val (.int (own_nf4 v0 v1 v2 v3)), .val (.int (own_nf3 v0 v1 v2)), .val (.int (own_nt4_3 v0 v1 v2 v3)), .val (.int (3 : Int32))] [(.int (3 : Int32))])) _
    refine XS.aloadN X535.here hx rfl (hb hby d3_52) rfl rfl ?_
    show Steps p.tables e below (T535.setTop (mkF m 53 #[.val (.ref a), .val (.ref b410), .val (.int (own_nf4 v0 v1 v2 v3)), .val (.int (own_nf3 v0 v1 v2)), .val (.int (own_nt4_3 v0 v1 v2 v3)), .val (.int (3 : Int32))] [(.ref a), (.int (3 : Int32))])) _
    exact kq)
  have f538 := (f516.other W535 (Or.inl ne_a_b410))
  obtain ⟨T539, X539, e539, st539⟩ := getF X535 hx hZ hown (host := "") (Or.inl (hw _ (List.mem_of_getElem? (i := 28) rfl))) Via.refl e535 f538 (g := (mkF m 53 #[.val (.ref a), .val (.ref b410), .val (.int (own_nf4 v0 v1 v2 v3)), .val (.int (own_nf3 v0 v1 v2)), .val (.int (own_nt4_3 v0 v1 v2 v3)), .val (.int (3 : Int32))] [(.ref a), (.int (3 : Int32))])) rfl rfl (hb hby d3_53)
  have G540 : Go p e below A0 (T539.setTop (mkF m 56 #[.val (.ref a), .val (.ref b410), .val (.int (own_nf4 v0 v1 v2 v3)), .val (.int (own_nf3 v0 v1 v2)), .val (.int (own_nt4_3 v0 v1 v2 v3)), .val (.int (3 : Int32))] [(.int (4 : Int32)), (.int (3 : Int32))])) := fun tq kq => G537 tq (st539 _ kq)
  have G541 : Go p e below A0 (T539.setTop (mkF m 61 #[.val (.ref a), .val (.ref b410), .val (.int (own_nf4 v0 v1 v2 v3)), .val (.int (own_nf3 v0 v1 v2)), .val (.int (own_nt4_3 v0 v1 v2 v3)), .val (.int (3 : Int32))] [(.ref a), (.ref b410)])) := fun tq kq => G540 tq (by
    refine XS.icmpNo X539.here hx rfl (hb hby d3_56) rfl (by decide) ?_
    show Steps p.tables e below (T539.setTop (mkF m 59 #[.val (.ref a), .val (.ref b410), .val (.int (own_nf4 v0 v1 v2 v3)), .val (.int (own_nf3 v0 v1 v2)), .val (.int (own_nt4_3 v0 v1 v2 v3)), .val (.int (3 : Int32))] [])) _
    refine XS.aloadN X539.here hx rfl (hb hby d3_59) rfl rfl ?_
    show Steps p.tables e below (T539.setTop (mkF m 60 #[.val (.ref a), .val (.ref b410), .val (.int (own_nf4 v0 v1 v2 v3)), .val (.int (own_nf3 v0 v1 v2)), .val (.int (own_nt4_3 v0 v1 v2 v3)), .val (.int (3 : Int32))] [(.ref b410)])) _
    refine XS.aloadN X539.here hx rfl (hb hby d3_60) rfl rfl ?_
    show Steps p.tables e below (T539.setTop (mkF m 61 #[.val (.ref a), .val (.ref b410), .val (.int (own_nf4 v0 v1 v2 v3)), .val (.int (own_nf3 v0 v1 v2)), .val (.int (own_nt4_3 v0 v1 v2 v3)), .val (.int (3 : Int32))] [(.ref a), (.ref b410)])) _
    exact kq)
  have f542 := (f520.other W535 (Or.inl ne_a_b410))
  obtain ⟨T543, X543, e543, st543⟩ := getF X539 hx hZ hown (host := "") (Or.inl (hw _ (List.mem_of_getElem? (i := 19) rfl))) Via.refl e539 f542 (g := (mkF m 61 #[.val (.ref a), .val (.ref b410), .val (.int (own_nf4 v0 v1 v2 v3)), .val (.int (own_nf3 v0 v1 v2)), .val (.int (own_nt4_3 v0 v1 v2 v3)), .val (.int (3 : Int32))] [(.ref a), (.ref b410)])) rfl rfl (hb hby d3_61)
  have G544 : Go p e below A0 (T543.setTop (mkF m 64 #[.val (.ref a), .val (.ref b410), .val (.int (own_nf4 v0 v1 v2 v3)), .val (.int (own_nf3 v0 v1 v2)), .val (.int (own_nt4_3 v0 v1 v2 v3)), .val (.int (3 : Int32))] [(.ref b), (.ref b410)])) := fun tq kq => G541 tq (st543 _ kq)
  have G545 : Go p e below A0 (T543.setTop (mkF m 66 #[.val (.ref a), .val (.ref b410), .val (.int (own_nf4 v0 v1 v2 v3)), .val (.int (own_nf3 v0 v1 v2)), .val (.int (own_nt4_3 v0 v1 v2 v3)), .val (.int (3 : Int32))] [(.int (3 : Int32)), (.ref b), (.ref b410)])) := fun tq kq => G544 tq (by
    refine XS.iload X543.here hx rfl (hb hby d3_64) rfl ?_
    show Steps p.tables e below (T543.setTop (mkF m 66 #[.val (.ref a), .val (.ref b410), .val (.int (own_nf4 v0 v1 v2 v3)), .val (.int (own_nf3 v0 v1 v2)), .val (.int (own_nt4_3 v0 v1 v2 v3)), .val (.int (3 : Int32))] [(.int (3 : Int32)), (.ref b), (.ref b410)])) _
    exact kq)
  have f546 := (f524.other W535 ne_b_b410)
  obtain ⟨cl547, Ar547, q547, S547, M547, H547, Gf547⟩ := id f546
  have hi548 : ¬ ((3 : Int32) < 0 ∨ cl547.slots.size ≤ ((3 : Int32)).toNatClampNeg) := (inb_of S547 ⟨by decide, by decide⟩)
  have G549 : Go p e below A0 (T543.setTop (mkF m 67 #[.val (.ref a), .val (.ref b410), .val (.int (own_nf4 v0 v1 v2 v3)), .val (.int (own_nf3 v0 v1 v2)), .val (.int (own_nt4_3 v0 v1 v2 v3)), .val (.int (3 : Int32))] [(.int v3), (.ref b410)])) := fun tq kq => G545 tq (by
    refine X543.baloadBooleans hx (j := (3 : Int32)) (v := (.int v3)) (by rw [e543]; exact Ar547.1) (State.isArrayOf_alike hZ.alike Ar547.2.1) Ar547.2.2 hi548 (H547.at hi548 rfl) (g := (mkF m 66 #[.val (.ref a), .val (.ref b410), .val (.int (own_nf4 v0 v1 v2 v3)), .val (.int (own_nf3 v0 v1 v2)), .val (.int (own_nt4_3 v0 v1 v2 v3)), .val (.int (3 : Int32))] [(.int (3 : Int32)), (.ref b), (.ref b410)])) rfl rfl (hb hby d3_66) _ ?_
    show Steps p.tables e below (T543.setTop (mkF m 67 #[.val (.ref a), .val (.ref b410), .val (.int (own_nf4 v0 v1 v2 v3)), .val (.int (own_nf3 v0 v1 v2)), .val (.int (own_nt4_3 v0 v1 v2 v3)), .val (.int (3 : Int32))] [(.int v3), (.ref b410)])) _
    exact kq)
  obtain ⟨x3, y3, z3, hG550, G550⟩ : ∃ (x3 : Int32) (y3 : Int32) (z3 : Int32), (x3 = (own_ix4_3 v0 v1 v2 v3) ∧ y3 = (own_nf4 v0 v1 v2 v3) ∧ z3 = (own_nt4_4 v0 v1 v2 v3)) ∧ Go p e below A0 (T543.setTop (mkF m 82 #[.val (.ref a), .val (.ref b410), .val (.int (own_nf4 v0 v1 v2 v3)), .val (.int y3), .val (.int z3), .val (.int (3 : Int32))] [(.int x3), (.ref b410)])) := by
    by_cases hc551 : v3 = (0 : Int32)
    · have G552 : Go p e below A0 (T543.setTop (mkF m 82 #[.val (.ref a), .val (.ref b410), .val (.int (own_nf4 v0 v1 v2 v3)), .val (.int ((own_nf3 v0 v1 v2) + (1 : Int32))), .val (.int (own_nt4_3 v0 v1 v2 v3)), .val (.int (3 : Int32))] [(.int (own_nf3 v0 v1 v2)), (.ref b410)])) := fun tq kq => G549 tq (by
        refine XS.ifYes X543.here hx rfl (pc0 := 67) (pc' := 78) rfl (hb hby d3_67) rfl ((if0 _ _).trans (teq hc551).1) (by decide) (by decide) ?_
        show Steps p.tables e below (T543.setTop (mkF m 78 #[.val (.ref a), .val (.ref b410), .val (.int (own_nf4 v0 v1 v2 v3)), .val (.int (own_nf3 v0 v1 v2)), .val (.int (own_nt4_3 v0 v1 v2 v3)), .val (.int (3 : Int32))] [(.ref b410)])) _
        refine XS.iloadN X543.here hx rfl (hb hby d3_78) rfl ?_
        show Steps p.tables e below (T543.setTop (mkF m 79 #[.val (.ref a), .val (.ref b410), .val (.int (own_nf4 v0 v1 v2 v3)), .val (.int (own_nf3 v0 v1 v2)), .val (.int (own_nt4_3 v0 v1 v2 v3)), .val (.int (3 : Int32))] [(.int (own_nf3 v0 v1 v2)), (.ref b410)])) _
        refine XS.iinc X543.here hx rfl (hb hby d3_79) rfl (l' := #[.val (.ref a), .val (.ref b410), .val (.int (own_nf4 v0 v1 v2 v3)), .val (.int ((own_nf3 v0 v1 v2) + (1 : Int32))), .val (.int (own_nt4_3 v0 v1 v2 v3)), .val (.int (3 : Int32))]) rfl ?_
        show Steps p.tables e below (T543.setTop (mkF m 82 #[.val (.ref a), .val (.ref b410), .val (.int (own_nf4 v0 v1 v2 v3)), .val (.int ((own_nf3 v0 v1 v2) + (1 : Int32))), .val (.int (own_nt4_3 v0 v1 v2 v3)), .val (.int (3 : Int32))] [(.int (own_nf3 v0 v1 v2)), (.ref b410)])) _
        exact kq)
      exact ⟨(own_nf3 v0 v1 v2), ((own_nf3 v0 v1 v2) + (1 : Int32)), (own_nt4_3 v0 v1 v2 v3), (by exact ⟨(if_pos hc551).symm, (congrArg (fun q => (own_nf3 v0 v1 v2) + q) (own_bt hc551)).symm, ((congrArg (fun q => (own_nt4_3 v0 v1 v2 v3) + q) (own_b0 (fun q => q hc551))).trans (Int32.add_zero _)).symm⟩), G552⟩
    · have G553 : Go p e below A0 (T543.setTop (mkF m 82 #[.val (.ref a), .val (.ref b410), .val (.int (own_nf4 v0 v1 v2 v3)), .val (.int (own_nf3 v0 v1 v2)), .val (.int ((own_nt4_3 v0 v1 v2 v3) + (1 : Int32))), .val (.int (3 : Int32))] [(.int (own_nt4_3 v0 v1 v2 v3)), (.ref b410)])) := fun tq kq => G549 tq (by
        refine XS.ifNo X543.here hx rfl (hb hby d3_67) rfl ((if0 _ _).trans (feq hc551).1) ?_
        show Steps p.tables e below (T543.setTop (mkF m 70 #[.val (.ref a), .val (.ref b410), .val (.int (own_nf4 v0 v1 v2 v3)), .val (.int (own_nf3 v0 v1 v2)), .val (.int (own_nt4_3 v0 v1 v2 v3)), .val (.int (3 : Int32))] [(.ref b410)])) _
        refine XS.iload X543.here hx rfl (hb hby d3_70) rfl ?_
        show Steps p.tables e below (T543.setTop (mkF m 72 #[.val (.ref a), .val (.ref b410), .val (.int (own_nf4 v0 v1 v2 v3)), .val (.int (own_nf3 v0 v1 v2)), .val (.int (own_nt4_3 v0 v1 v2 v3)), .val (.int (3 : Int32))] [(.int (own_nt4_3 v0 v1 v2 v3)), (.ref b410)])) _
        refine XS.iinc X543.here hx rfl (hb hby d3_72) rfl (l' := #[.val (.ref a), .val (.ref b410), .val (.int (own_nf4 v0 v1 v2 v3)), .val (.int (own_nf3 v0 v1 v2)), .val (.int ((own_nt4_3 v0 v1 v2 v3) + (1 : Int32))), .val (.int (3 : Int32))]) rfl ?_
        show Steps p.tables e below (T543.setTop (mkF m 75 #[.val (.ref a), .val (.ref b410), .val (.int (own_nf4 v0 v1 v2 v3)), .val (.int (own_nf3 v0 v1 v2)), .val (.int ((own_nt4_3 v0 v1 v2 v3) + (1 : Int32))), .val (.int (3 : Int32))] [(.int (own_nt4_3 v0 v1 v2 v3)), (.ref b410)])) _
        refine XS.goto X543.here hx rfl (pc0 := 75) (pc' := 82) rfl (hb hby d3_75) (by decide) (by decide) ?_
        show Steps p.tables e below (T543.setTop (mkF m 82 #[.val (.ref a), .val (.ref b410), .val (.int (own_nf4 v0 v1 v2 v3)), .val (.int (own_nf3 v0 v1 v2)), .val (.int ((own_nt4_3 v0 v1 v2 v3) + (1 : Int32))), .val (.int (3 : Int32))] [(.int (own_nt4_3 v0 v1 v2 v3)), (.ref b410)])) _
        exact kq)
      exact ⟨(own_nt4_3 v0 v1 v2 v3), (own_nf3 v0 v1 v2), ((own_nt4_3 v0 v1 v2 v3) + (1 : Int32)), (by exact ⟨(if_neg hc551).symm, ((congrArg (fun q => (own_nf3 v0 v1 v2) + q) (own_b0 hc551)).trans (Int32.add_zero _)).symm, (congrArg (fun q => (own_nt4_3 v0 v1 v2 v3) + q) (own_bt hc551)).symm⟩), G553⟩
  obtain ⟨rfl, rfl, rfl⟩ := hG550
  have G554 : Go p e below A0 (T543.setTop (mkF m 84 #[.val (.ref a), .val (.ref b410), .val (.int (own_nf4 v0 v1 v2 v3)), .val (.int (own_nf4 v0 v1 v2 v3)), .val (.int (own_nt4_4 v0 v1 v2 v3)), .val (.int (3 : Int32))] [(.int (3 : Int32)), (.int (own_ix4_3 v0 v1 v2 v3)), (.ref b410)])) := fun tq kq => G550 tq (by
    refine XS.iload X543.here hx rfl (hb hby d3_82) rfl ?_
    show Steps p.tables e below (T543.setTop (mkF m 84 #[.val (.ref a), .val (.ref b410), .val (.int (own_nf4 v0 v1 v2 v3)), .val (.int (own_nf4 v0 v1 v2 v3)), .val (.int (own_nt4_4 v0 v1 v2 v3)), .val (.int (3 : Int32))] [(.int (3 : Int32)), (.int (own_ix4_3 v0 v1 v2 v3)), (.ref b410)])) _
    exact kq)
  obtain ⟨cl555, Ar555, q555, S555, M555, H555⟩ := id V535'
  have hi556 : ¬ ((own_ix4_3 v0 v1 v2 v3) < 0 ∨ cl555.slots.size ≤ ((own_ix4_3 v0 v1 v2 v3)).toNatClampNeg) := (inb_of S555 (own_idx_4_3 v0 v1 v2 v3 hb0 hb1 hb2 hb3))
  obtain ⟨T557, h557, X557, e557, W557, st557⟩ := stI X543 hx hZ e543 Ar555 (j := (own_ix4_3 v0 v1 v2 v3)) hi556 (g := (mkF m 84 #[.val (.ref a), .val (.ref b410), .val (.int (own_nf4 v0 v1 v2 v3)), .val (.int (own_nf4 v0 v1 v2 v3)), .val (.int (own_nt4_4 v0 v1 v2 v3)), .val (.int (3 : Int32))] [(.int (3 : Int32)), (.int (own_ix4_3 v0 v1 v2 v3)), (.ref b410)])) rfl rfl (hb hby d3_84)
  have N557 := Fr.snoc X557 N535 g_b410
  have V557 : Af Z h557 b410 k410 .int (4 : Int32) (fun i => if i = ((own_ix4_3 v0 v1 v2 v3)).toNatClampNeg then (.int (3 : Int32)) else ((own_g4_3 v0 v1 v2 v3)) i) := Af.set Ar555 q555 S555 M555 H555 W557 hi556
  have V557' : Af Z h557 b410 k410 .int (4 : Int32) (own_g4_4 v0 v1 v2 v3) := V557.fn (fun _ _ => rfl)
  have G558 : Go p e below A0 (T557.setTop (mkF m 85 #[.val (.ref a), .val (.ref b410), .val (.int (own_nf4 v0 v1 v2 v3)), .val (.int (own_nf4 v0 v1 v2 v3)), .val (.int (own_nt4_4 v0 v1 v2 v3)), .val (.int (3 : Int32))] [])) := fun tq kq => G554 tq (st557 _ kq)
  have G559 : Go p e below A0 (T557.setTop (mkF m 53 #[.val (.ref a), .val (.ref b410), .val (.int (own_nf4 v0 v1 v2 v3)), .val (.int (own_nf4 v0 v1 v2 v3)), .val (.int (own_nt4_4 v0 v1 v2 v3)), .val (.int (4 : Int32))] [(.ref a), (.int (4 : Int32))])) := fun tq kq => G558 tq (by
    refine XS.iinc X557.here hx rfl (hb hby d3_85) rfl (l' := #[.val (.ref a), .val (.ref b410), .val (.int (own_nf4 v0 v1 v2 v3)), .val (.int (own_nf4 v0 v1 v2 v3)), .val (.int (own_nt4_4 v0 v1 v2 v3)), .val (.int ((3 : Int32) + (1 : Int32)))]) rfl ?_
    show Steps p.tables e below (T557.setTop (mkF m 88 #[.val (.ref a), .val (.ref b410), .val (.int (own_nf4 v0 v1 v2 v3)), .val (.int (own_nf4 v0 v1 v2 v3)), .val (.int (own_nt4_4 v0 v1 v2 v3)), .val (.int ((3 : Int32) + (1 : Int32)))] [])) _
    rw [show ((3 : Int32) + (1 : Int32)) = (4 : Int32) from (by decide : ((3 : Int32) + (1 : Int32)) = (4 : Int32))]
    show Steps p.tables e below (T557.setTop (mkF m 88 #[.val (.ref a), .val (.ref b410), .val (.int (own_nf4 v0 v1 v2 v3)), .val (.int (own_nf4 v0 v1 v2 v3)), .val (.int (own_nt4_4 v0 v1 v2 v3)), .val (.int (4 : Int32))] [])) _
    refine XS.goto X557.here hx rfl (pc0 := 88) (pc' := 50) rfl (hb hby d3_88) (by decide) (by decide) ?_
    show Steps p.tables e below (T557.setTop (mkF m 50 #[.val (.ref a), .val (.ref b410), .val (.int (own_nf4 v0 v1 v2 v3)), .val (.int (own_nf4 v0 v1 v2 v3)), .val (.int (own_nt4_4 v0 v1 v2 v3)), .val (.int (4 : Int32))] [])) _
    refine XS.iload X557.here hx rfl (hb hby d3_50) rfl ?_
    show Steps p.tables e below (T557.setTop (mkF m 52 #[.val (.ref a), .val (.ref b410), .val (.int (own_nf4 v0 v1 v2 v3)), .val (.int (own_nf4 v0 v1 v2 v3)), .val (.int (own_nt4_4 v0 v1 v2 v3)), .val (.int (4 : Int32))] [(.int (4 : Int32))])) _
    refine XS.aloadN X557.here hx rfl (hb hby d3_52) rfl rfl ?_
    show Steps p.tables e below (T557.setTop (mkF m 53 #[.val (.ref a), .val (.ref b410), .val (.int (own_nf4 v0 v1 v2 v3)), .val (.int (own_nf4 v0 v1 v2 v3)), .val (.int (own_nt4_4 v0 v1 v2 v3)), .val (.int (4 : Int32))] [(.ref a), (.int (4 : Int32))])) _
    exact kq)
  have f560 := (f538.other W557 (Or.inl ne_a_b410))
  obtain ⟨T561, X561, e561, st561⟩ := getF X557 hx hZ hown (host := "") (Or.inl (hw _ (List.mem_of_getElem? (i := 28) rfl))) Via.refl e557 f560 (g := (mkF m 53 #[.val (.ref a), .val (.ref b410), .val (.int (own_nf4 v0 v1 v2 v3)), .val (.int (own_nf4 v0 v1 v2 v3)), .val (.int (own_nt4_4 v0 v1 v2 v3)), .val (.int (4 : Int32))] [(.ref a), (.int (4 : Int32))])) rfl rfl (hb hby d3_53)
  have G562 : Go p e below A0 (T561.setTop (mkF m 56 #[.val (.ref a), .val (.ref b410), .val (.int (own_nf4 v0 v1 v2 v3)), .val (.int (own_nf4 v0 v1 v2 v3)), .val (.int (own_nt4_4 v0 v1 v2 v3)), .val (.int (4 : Int32))] [(.int (4 : Int32)), (.int (4 : Int32))])) := fun tq kq => G559 tq (st561 _ kq)
  have G563 : Go p e below A0 (T561.setTop (mkF m 92 #[.val (.ref a), .val (.ref b410), .val (.int (own_nf4 v0 v1 v2 v3)), .val (.int (own_nf4 v0 v1 v2 v3)), .val (.int (own_nt4_4 v0 v1 v2 v3)), .val (.int (4 : Int32))] [(.ref b410)])) := fun tq kq => G562 tq (by
    refine XS.icmpYes X561.here hx rfl (pc0 := 56) (pc' := 91) rfl (hb hby d3_56) rfl (by decide) (by decide) (by decide) ?_
    show Steps p.tables e below (T561.setTop (mkF m 91 #[.val (.ref a), .val (.ref b410), .val (.int (own_nf4 v0 v1 v2 v3)), .val (.int (own_nf4 v0 v1 v2 v3)), .val (.int (own_nt4_4 v0 v1 v2 v3)), .val (.int (4 : Int32))] [])) _
    refine XS.aloadN X561.here hx rfl (hb hby d3_91) rfl rfl ?_
    show Steps p.tables e below (T561.setTop (mkF m 92 #[.val (.ref a), .val (.ref b410), .val (.int (own_nf4 v0 v1 v2 v3)), .val (.int (own_nf4 v0 v1 v2 v3)), .val (.int (own_nt4_4 v0 v1 v2 v3)), .val (.int (4 : Int32))] [(.ref b410)])) _
    exact kq)
  obtain ⟨fs, hr, hrun, hended, hW, hsame⟩ := X561.leave (v := some (.ref b410)) (fun h => by rw [Bd.returns] at h; cases h)
  refine ⟨_, _, (by rw [← hA0]; exact G563 _ (retOut X561 hx (t := (.array .int)) Bd.returns rfl (Or.inr (Or.inr (Or.inr (Or.inr ⟨rfl, rfl, rfl⟩)))) (hb hby d3_92) hr)), hrun, hended, _, _, rfl, ?_, ⟨_, rfl⟩, hW, hsame.mono (by decide) (by decide)⟩
  show Qo4 Z v0 v1 v2 v3 h0 n0 _ T561.heap _
  rw [e561]
  exact ⟨_, _, rfl, N557, ((((((Keep.refl h0 []).ext E410).wr W491 (Or.inr sz_b410)).wr W513 (Or.inr sz_b410)).wr W535 (Or.inr sz_b410)).wr W557 (Or.inr sz_b410)), V557'⟩
def Qo5 (Z : State) (v0 v1 v2 v3 v4 : Int32) (h0 : Heap) (n0 : Nat) (v : Option Value) (h : Heap) (L : List Loc) : Prop := ∃ r kr, v = some (.ref r) ∧ Fr n0 L ∧ Keep h0 h [] ∧ Af Z h r kr .int (5 : Int32) (own_g5_5 v0 v1 v2 v3 v4)
set_option maxRecDepth 65536 in
set_option maxHeartbeats 40000000 in
theorem rmO5 (l : Launch) (Z : State) (a0 : Array Value) (hw : ∀ d ∈ tables_1, d.before a0 Z = true) (ws : List Jvm.Cond) (a b : Addr) (kb : ClassId) (v0 v1 v2 v3 v4 : Int32) (h0 : Heap) (n0 : Nat) (Z0 : n0 ≤ h0.size) (F1 : Fld Z h0 a "com/example/tube2/tube2/trace/BooleanSignal" "values" "[Z" (.ref b)) (F2 : Fld Z h0 a "com/example/tube2/tube2/trace/BooleanSignal" "size" "I" (.int (5 : Int32))) (A : Arv Z h0 b kb .boolean (1024 : Int32) [(.int v0), (.int v1), (.int v2), (.int v3), (.int v4)] (.int (0 : Int32))) (hb0 : v0 = (0 : Int32) ∨ v0 = (1 : Int32)) (hb1 : v1 = (0 : Int32) ∨ v1 = (1 : Int32)) (hb2 : v2 = (0 : Int32) ∨ v2 = (1 : Int32)) (hb3 : v3 = (0 : Int32) ∨ v3 = (1 : Int32)) (hb4 : v4 = (0 : Int32) ∨ v4 = (1 : Int32)) :
    MetFree l (⟨"com/example/tube2/tube2/trace/BooleanSignal", "order", "()[I"⟩ : MethodName) (head1 (Jvm.Cond.code (⟨"com/example/tube2/tube2/trace/BooleanSignal", "order", "()[I"⟩ : MethodName) prog_91_method_10_code 6 (some (.array .int)) :: ws) ({ frames := 0, cells := 1, slots := 5, locals := 0 } : Room)) (fun aa UU => aa = #[(.ref a)] ∧ Z.Warmed39 UU.vm ∧ UU.heap = h0) (fun _ _ _ _ _ => True) (fun _ UU oo U' => ∃ v L, oo = .returned v ∧ Qo5 Z v0 v1 v2 v3 v4 h0 n0 v U'.heap L ∧ FrameEnd UU oo U' L ({ frames := 0, cells := 1, slots := 5, locals := 0 } : Room).cells ({ frames := 0, cells := 1, slots := 5, locals := 0 } : Room).slots) := by
  refine MetFree.of_bodySF (plainFor_of_name pn_0) hisR ?_
  intro p e s m args below meth c s₁ Bd hml0 hP hK
  obtain ⟨rfl, hZ, hh⟩ := hP
  have hx := Bd.exec
  have hby := Bd.bytes
  have hml : c.maxLocals = 6 := hml0
  have hown : s.vm.findClass "com/example/tube2/tube2/trace/BooleanSignal" = some m.cls := findClass_of_methodNamed Bd.named
  have hnm := (name_of_methodNamed Bd.named Bd.method).1
  have X0 : Stand p l e ({ frames := 0, cells := 1, slots := 5, locals := 0 } : Room) s m #[(.ref a)] below meth c s₁ [] 0 0 := Stand.of_body Bd
  have e0 : s₁.heap = h0 := by rw [← hh, Bd.state]; rfl
  have N0 := Fr.nil n0
  obtain ⟨A0, hA0⟩ : ∃ A, A = s₁.setTop (entryFrame m #[(.ref a)] 6) := ⟨_, rfl⟩
  have G0 : Go p e below A0 (s₁.setTop (mkF m 0 #[.val (.ref a), .unset, .unset, .unset, .unset, .unset] [])) := fun tq kq => by rw [hA0]; exact castTop (ef_rmO5 m a) kq
  have G564 : Go p e below A0 (s₁.setTop (mkF m 1 #[.val (.ref a), .unset, .unset, .unset, .unset, .unset] [(.ref a)])) := fun tq kq => G0 tq (by
    refine XS.aloadN X0.here hx rfl (hb hby d3_0) rfl rfl ?_
    show Steps p.tables e below (s₁.setTop (mkF m 1 #[.val (.ref a), .unset, .unset, .unset, .unset, .unset] [(.ref a)])) _
    exact kq)
  obtain ⟨T565, X565, e565, st565⟩ := getF X0 hx hZ hown (host := "") (Or.inl (hw _ (List.mem_of_getElem? (i := 28) rfl))) Via.refl e0 F2 (g := (mkF m 1 #[.val (.ref a), .unset, .unset, .unset, .unset, .unset] [(.ref a)])) rfl rfl (hb hby d3_1)
  have G566 : Go p e below A0 (T565.setTop (mkF m 4 #[.val (.ref a), .unset, .unset, .unset, .unset, .unset] [(.int (5 : Int32))])) := fun tq kq => G564 tq (st565 _ kq)
  obtain ⟨T567, h567, k567, X567, e567, E567, A567, st567⟩ := newP X565 hx hZ (hw _ (List.mem_of_getElem? (i := 30) rfl)) e565 (g := (mkF m 4 #[.val (.ref a), .unset, .unset, .unset, .unset, .unset] [(.int (5 : Int32))])) rfl (hb hby d3_4) rfl (by decide) (cap := 5) (by decide) (by decide) (by decide) (by decide)
  obtain ⟨b567, g567⟩ : ∃ z, z = h0.size := ⟨_, rfl⟩
  rw [← g567] at A567 st567
  have sz_b567 : h0.size ≤ b567 := Nat.le_trans (Nat.le_refl h0.size) (Nat.le_of_eq g567.symm)
  have g_b567 : n0 ≤ b567 := Nat.le_trans Z0 (Nat.le_of_eq g567.symm)
  have ne_a_b567 : a ≠ b567 := Nat.ne_of_lt (Nat.lt_of_lt_of_le F1.lt (Nat.le_of_eq g567.symm))
  have ne_b_b567 : b ≠ b567 := Nat.ne_of_lt (Nat.lt_of_lt_of_le A.lt (Nat.le_of_eq g567.symm))
  have V567 : Arv Z h567 b567 k567 .int (5 : Int32) [(.int (0 : Int32)), (.int (0 : Int32)), (.int (0 : Int32)), (.int (0 : Int32)), (.int (0 : Int32))] (.int (0 : Int32)) := (Arv.new A567 (by decide)).pad (pad_rep [] (.int (0 : Int32)) 5)
  have G568 : Go p e below A0 (T567.setTop (mkF m 6 #[.val (.ref a), .unset, .unset, .unset, .unset, .unset] [(.ref b567)])) := fun tq kq => G566 tq (st567 _ kq)
  have Af0 : Af Z h567 b567 k567 .int (5 : Int32) (own_g5_0 v0 v1 v2 v3 v4) := Af.of V567
  have G569 : Go p e below A0 (T567.setTop (mkF m 13 #[.val (.ref a), .val (.ref b567), .val (.int (0 : Int32)), .val (.int (0 : Int32)), .unset, .unset] [(.ref a), (.int (0 : Int32))])) := fun tq kq => G568 tq (by
    refine XS.astoreN X567.here hx rfl (hb hby d3_6) rfl rfl (l' := #[.val (.ref a), .val (.ref b567), .unset, .unset, .unset, .unset]) rfl ?_
    show Steps p.tables e below (T567.setTop (mkF m 7 #[.val (.ref a), .val (.ref b567), .unset, .unset, .unset, .unset] [])) _
    refine XS.iconst X567.here hx rfl (hb hby d3_7) ?_
    show Steps p.tables e below (T567.setTop (mkF m 8 #[.val (.ref a), .val (.ref b567), .unset, .unset, .unset, .unset] [(.int (0 : Int32))])) _
    refine XS.istoreN X567.here hx rfl (hb hby d3_8) rfl (l' := #[.val (.ref a), .val (.ref b567), .val (.int (0 : Int32)), .unset, .unset, .unset]) rfl ?_
    show Steps p.tables e below (T567.setTop (mkF m 9 #[.val (.ref a), .val (.ref b567), .val (.int (0 : Int32)), .unset, .unset, .unset] [])) _
    refine XS.iconst X567.here hx rfl (hb hby d3_9) ?_
    show Steps p.tables e below (T567.setTop (mkF m 10 #[.val (.ref a), .val (.ref b567), .val (.int (0 : Int32)), .unset, .unset, .unset] [(.int (0 : Int32))])) _
    refine XS.istoreN X567.here hx rfl (hb hby d3_10) rfl (l' := #[.val (.ref a), .val (.ref b567), .val (.int (0 : Int32)), .val (.int (0 : Int32)), .unset, .unset]) rfl ?_
    show Steps p.tables e below (T567.setTop (mkF m 11 #[.val (.ref a), .val (.ref b567), .val (.int (0 : Int32)), .val (.int (0 : Int32)), .unset, .unset] [])) _
    refine XS.iloadN X567.here hx rfl (hb hby d3_11) rfl ?_
    show Steps p.tables e below (T567.setTop (mkF m 12 #[.val (.ref a), .val (.ref b567), .val (.int (0 : Int32)), .val (.int (0 : Int32)), .unset, .unset] [(.int (0 : Int32))])) _
    refine XS.aloadN X567.here hx rfl (hb hby d3_12) rfl rfl ?_
    show Steps p.tables e below (T567.setTop (mkF m 13 #[.val (.ref a), .val (.ref b567), .val (.int (0 : Int32)), .val (.int (0 : Int32)), .unset, .unset] [(.ref a), (.int (0 : Int32))])) _
    exact kq)
  have f570 := (F2.ext E567)
  obtain ⟨T571, X571, e571, st571⟩ := getF X567 hx hZ hown (host := "") (Or.inl (hw _ (List.mem_of_getElem? (i := 28) rfl))) Via.refl e567 f570 (g := (mkF m 13 #[.val (.ref a), .val (.ref b567), .val (.int (0 : Int32)), .val (.int (0 : Int32)), .unset, .unset] [(.ref a), (.int (0 : Int32))])) rfl rfl (hb hby d3_13)
  have G572 : Go p e below A0 (T571.setTop (mkF m 16 #[.val (.ref a), .val (.ref b567), .val (.int (0 : Int32)), .val (.int (0 : Int32)), .unset, .unset] [(.int (5 : Int32)), (.int (0 : Int32))])) := fun tq kq => G569 tq (st571 _ kq)
  have G573 : Go p e below A0 (T571.setTop (mkF m 21 #[.val (.ref a), .val (.ref b567), .val (.int (0 : Int32)), .val (.int (0 : Int32)), .unset, .unset] [(.ref a), (.int (0 : Int32))])) := fun tq kq => G572 tq (by
    refine XS.icmpNo X571.here hx rfl (hb hby d3_16) rfl (by decide) ?_
    show Steps p.tables e below (T571.setTop (mkF m 19 #[.val (.ref a), .val (.ref b567), .val (.int (0 : Int32)), .val (.int (0 : Int32)), .unset, .unset] [])) _
    refine XS.iloadN X571.here hx rfl (hb hby d3_19) rfl ?_
    show Steps p.tables e below (T571.setTop (mkF m 20 #[.val (.ref a), .val (.ref b567), .val (.int (0 : Int32)), .val (.int (0 : Int32)), .unset, .unset] [(.int (0 : Int32))])) _
    refine XS.aloadN X571.here hx rfl (hb hby d3_20) rfl rfl ?_
    show Steps p.tables e below (T571.setTop (mkF m 21 #[.val (.ref a), .val (.ref b567), .val (.int (0 : Int32)), .val (.int (0 : Int32)), .unset, .unset] [(.ref a), (.int (0 : Int32))])) _
    exact kq)
  have f574 := (F1.ext E567)
  obtain ⟨T575, X575, e575, st575⟩ := getF X571 hx hZ hown (host := "") (Or.inl (hw _ (List.mem_of_getElem? (i := 19) rfl))) Via.refl e571 f574 (g := (mkF m 21 #[.val (.ref a), .val (.ref b567), .val (.int (0 : Int32)), .val (.int (0 : Int32)), .unset, .unset] [(.ref a), (.int (0 : Int32))])) rfl rfl (hb hby d3_21)
  have G576 : Go p e below A0 (T575.setTop (mkF m 24 #[.val (.ref a), .val (.ref b567), .val (.int (0 : Int32)), .val (.int (0 : Int32)), .unset, .unset] [(.ref b), (.int (0 : Int32))])) := fun tq kq => G573 tq (st575 _ kq)
  have G577 : Go p e below A0 (T575.setTop (mkF m 25 #[.val (.ref a), .val (.ref b567), .val (.int (0 : Int32)), .val (.int (0 : Int32)), .unset, .unset] [(.int (0 : Int32)), (.ref b), (.int (0 : Int32))])) := fun tq kq => G576 tq (by
    refine XS.iloadN X575.here hx rfl (hb hby d3_24) rfl ?_
    show Steps p.tables e below (T575.setTop (mkF m 25 #[.val (.ref a), .val (.ref b567), .val (.int (0 : Int32)), .val (.int (0 : Int32)), .unset, .unset] [(.int (0 : Int32)), (.ref b), (.int (0 : Int32))])) _
    exact kq)
  have f578 := (A.ext E567)
  obtain ⟨cl579, Ar579, q579, S579, M579, H579, Gf579⟩ := id f578
  have hi580 : ¬ ((0 : Int32) < 0 ∨ cl579.slots.size ≤ ((0 : Int32)).toNatClampNeg) := (inb_of S579 ⟨by decide, by decide⟩)
  have G581 : Go p e below A0 (T575.setTop (mkF m 26 #[.val (.ref a), .val (.ref b567), .val (.int (0 : Int32)), .val (.int (0 : Int32)), .unset, .unset] [(.int v0), (.int (0 : Int32))])) := fun tq kq => G577 tq (by
    refine X575.baloadBooleans hx (j := (0 : Int32)) (v := (.int v0)) (by rw [e575]; exact Ar579.1) (State.isArrayOf_alike hZ.alike Ar579.2.1) Ar579.2.2 hi580 (H579.at hi580 rfl) (g := (mkF m 25 #[.val (.ref a), .val (.ref b567), .val (.int (0 : Int32)), .val (.int (0 : Int32)), .unset, .unset] [(.int (0 : Int32)), (.ref b), (.int (0 : Int32))])) rfl rfl (hb hby d3_25) _ ?_
    show Steps p.tables e below (T575.setTop (mkF m 26 #[.val (.ref a), .val (.ref b567), .val (.int (0 : Int32)), .val (.int (0 : Int32)), .unset, .unset] [(.int v0), (.int (0 : Int32))])) _
    exact kq)
  obtain ⟨t0, hG582, G582⟩ : ∃ (t0 : Int32), (t0 = (own_z v0)) ∧ Go p e below A0 (T575.setTop (mkF m 34 #[.val (.ref a), .val (.ref b567), .val (.int (0 : Int32)), .val (.int (0 : Int32)), .unset, .unset] [(.int t0), (.int (0 : Int32))])) := by
    by_cases hc583 : v0 = (0 : Int32)
    · have G584 : Go p e below A0 (T575.setTop (mkF m 34 #[.val (.ref a), .val (.ref b567), .val (.int (0 : Int32)), .val (.int (0 : Int32)), .unset, .unset] [(.int (1 : Int32)), (.int (0 : Int32))])) := fun tq kq => G581 tq (by
        refine XS.ifYes X575.here hx rfl (pc0 := 26) (pc' := 33) rfl (hb hby d3_26) rfl ((if0 _ _).trans (teq hc583).1) (by decide) (by decide) ?_
        show Steps p.tables e below (T575.setTop (mkF m 33 #[.val (.ref a), .val (.ref b567), .val (.int (0 : Int32)), .val (.int (0 : Int32)), .unset, .unset] [(.int (0 : Int32))])) _
        refine XS.iconst X575.here hx rfl (hb hby d3_33) ?_
        show Steps p.tables e below (T575.setTop (mkF m 34 #[.val (.ref a), .val (.ref b567), .val (.int (0 : Int32)), .val (.int (0 : Int32)), .unset, .unset] [(.int (1 : Int32)), (.int (0 : Int32))])) _
        exact kq)
      exact ⟨(1 : Int32), (by simp [own_z, own_b, hc583]), G584⟩
    · have G585 : Go p e below A0 (T575.setTop (mkF m 34 #[.val (.ref a), .val (.ref b567), .val (.int (0 : Int32)), .val (.int (0 : Int32)), .unset, .unset] [(.int (0 : Int32)), (.int (0 : Int32))])) := fun tq kq => G581 tq (by
        refine XS.ifNo X575.here hx rfl (hb hby d3_26) rfl ((if0 _ _).trans (feq hc583).1) ?_
        show Steps p.tables e below (T575.setTop (mkF m 29 #[.val (.ref a), .val (.ref b567), .val (.int (0 : Int32)), .val (.int (0 : Int32)), .unset, .unset] [(.int (0 : Int32))])) _
        refine XS.iconst X575.here hx rfl (hb hby d3_29) ?_
        show Steps p.tables e below (T575.setTop (mkF m 30 #[.val (.ref a), .val (.ref b567), .val (.int (0 : Int32)), .val (.int (0 : Int32)), .unset, .unset] [(.int (0 : Int32)), (.int (0 : Int32))])) _
        refine XS.goto X575.here hx rfl (pc0 := 30) (pc' := 34) rfl (hb hby d3_30) (by decide) (by decide) ?_
        show Steps p.tables e below (T575.setTop (mkF m 34 #[.val (.ref a), .val (.ref b567), .val (.int (0 : Int32)), .val (.int (0 : Int32)), .unset, .unset] [(.int (0 : Int32)), (.int (0 : Int32))])) _
        exact kq)
      exact ⟨(0 : Int32), (by simp [own_z, own_b, hc583]), G585⟩
  subst hG582
  have G586 : Go p e below A0 (T575.setTop (mkF m 13 #[.val (.ref a), .val (.ref b567), .val (.int (own_nf1 v0)), .val (.int (1 : Int32)), .unset, .unset] [(.ref a), (.int (1 : Int32))])) := fun tq kq => G582 tq (by
    refine XS.iadd X575.here hx rfl (hb hby d3_34) rfl ?_
    show Steps p.tables e below (T575.setTop (mkF m 35 #[.val (.ref a), .val (.ref b567), .val (.int (0 : Int32)), .val (.int (0 : Int32)), .unset, .unset] [(.int ((0 : Int32) + (own_z v0)))])) _
    rw [show ((0 : Int32) + (own_z v0)) = (own_nf1 v0) from rfl]
    show Steps p.tables e below (T575.setTop (mkF m 35 #[.val (.ref a), .val (.ref b567), .val (.int (0 : Int32)), .val (.int (0 : Int32)), .unset, .unset] [(.int (own_nf1 v0))])) _
    refine XS.istoreN X575.here hx rfl (hb hby d3_35) rfl (l' := #[.val (.ref a), .val (.ref b567), .val (.int (own_nf1 v0)), .val (.int (0 : Int32)), .unset, .unset]) rfl ?_
    show Steps p.tables e below (T575.setTop (mkF m 36 #[.val (.ref a), .val (.ref b567), .val (.int (own_nf1 v0)), .val (.int (0 : Int32)), .unset, .unset] [])) _
    refine XS.iinc X575.here hx rfl (hb hby d3_36) rfl (l' := #[.val (.ref a), .val (.ref b567), .val (.int (own_nf1 v0)), .val (.int ((0 : Int32) + (1 : Int32))), .unset, .unset]) rfl ?_
    show Steps p.tables e below (T575.setTop (mkF m 39 #[.val (.ref a), .val (.ref b567), .val (.int (own_nf1 v0)), .val (.int ((0 : Int32) + (1 : Int32))), .unset, .unset] [])) _
    rw [show ((0 : Int32) + (1 : Int32)) = (1 : Int32) from (by decide : ((0 : Int32) + (1 : Int32)) = (1 : Int32))]
    show Steps p.tables e below (T575.setTop (mkF m 39 #[.val (.ref a), .val (.ref b567), .val (.int (own_nf1 v0)), .val (.int (1 : Int32)), .unset, .unset] [])) _
    refine XS.goto X575.here hx rfl (pc0 := 39) (pc' := 11) rfl (hb hby d3_39) (by decide) (by decide) ?_
    show Steps p.tables e below (T575.setTop (mkF m 11 #[.val (.ref a), .val (.ref b567), .val (.int (own_nf1 v0)), .val (.int (1 : Int32)), .unset, .unset] [])) _
    refine XS.iloadN X575.here hx rfl (hb hby d3_11) rfl ?_
    show Steps p.tables e below (T575.setTop (mkF m 12 #[.val (.ref a), .val (.ref b567), .val (.int (own_nf1 v0)), .val (.int (1 : Int32)), .unset, .unset] [(.int (1 : Int32))])) _
    refine XS.aloadN X575.here hx rfl (hb hby d3_12) rfl rfl ?_
    show Steps p.tables e below (T575.setTop (mkF m 13 #[.val (.ref a), .val (.ref b567), .val (.int (own_nf1 v0)), .val (.int (1 : Int32)), .unset, .unset] [(.ref a), (.int (1 : Int32))])) _
    exact kq)
  obtain ⟨T587, X587, e587, st587⟩ := getF X575 hx hZ hown (host := "") (Or.inl (hw _ (List.mem_of_getElem? (i := 28) rfl))) Via.refl e575 f570 (g := (mkF m 13 #[.val (.ref a), .val (.ref b567), .val (.int (own_nf1 v0)), .val (.int (1 : Int32)), .unset, .unset] [(.ref a), (.int (1 : Int32))])) rfl rfl (hb hby d3_13)
  have G588 : Go p e below A0 (T587.setTop (mkF m 16 #[.val (.ref a), .val (.ref b567), .val (.int (own_nf1 v0)), .val (.int (1 : Int32)), .unset, .unset] [(.int (5 : Int32)), (.int (1 : Int32))])) := fun tq kq => G586 tq (st587 _ kq)
  have G589 : Go p e below A0 (T587.setTop (mkF m 21 #[.val (.ref a), .val (.ref b567), .val (.int (own_nf1 v0)), .val (.int (1 : Int32)), .unset, .unset] [(.ref a), (.int (own_nf1 v0))])) := fun tq kq => G588 tq (by
    refine XS.icmpNo X587.here hx rfl (hb hby d3_16) rfl (by decide) ?_
    show Steps p.tables e below (T587.setTop (mkF m 19 #[.val (.ref a), .val (.ref b567), .val (.int (own_nf1 v0)), .val (.int (1 : Int32)), .unset, .unset] [])) _
    refine XS.iloadN X587.here hx rfl (hb hby d3_19) rfl ?_
    show Steps p.tables e below (T587.setTop (mkF m 20 #[.val (.ref a), .val (.ref b567), .val (.int (own_nf1 v0)), .val (.int (1 : Int32)), .unset, .unset] [(.int (own_nf1 v0))])) _
    refine XS.aloadN X587.here hx rfl (hb hby d3_20) rfl rfl ?_
    show Steps p.tables e below (T587.setTop (mkF m 21 #[.val (.ref a), .val (.ref b567), .val (.int (own_nf1 v0)), .val (.int (1 : Int32)), .unset, .unset] [(.ref a), (.int (own_nf1 v0))])) _
    exact kq)
  obtain ⟨T590, X590, e590, st590⟩ := getF X587 hx hZ hown (host := "") (Or.inl (hw _ (List.mem_of_getElem? (i := 19) rfl))) Via.refl e587 f574 (g := (mkF m 21 #[.val (.ref a), .val (.ref b567), .val (.int (own_nf1 v0)), .val (.int (1 : Int32)), .unset, .unset] [(.ref a), (.int (own_nf1 v0))])) rfl rfl (hb hby d3_21)
  have G591 : Go p e below A0 (T590.setTop (mkF m 24 #[.val (.ref a), .val (.ref b567), .val (.int (own_nf1 v0)), .val (.int (1 : Int32)), .unset, .unset] [(.ref b), (.int (own_nf1 v0))])) := fun tq kq => G589 tq (st590 _ kq)
  have G592 : Go p e below A0 (T590.setTop (mkF m 25 #[.val (.ref a), .val (.ref b567), .val (.int (own_nf1 v0)), .val (.int (1 : Int32)), .unset, .unset] [(.int (1 : Int32)), (.ref b), (.int (own_nf1 v0))])) := fun tq kq => G591 tq (by
    refine XS.iloadN X590.here hx rfl (hb hby d3_24) rfl ?_
    show Steps p.tables e below (T590.setTop (mkF m 25 #[.val (.ref a), .val (.ref b567), .val (.int (own_nf1 v0)), .val (.int (1 : Int32)), .unset, .unset] [(.int (1 : Int32)), (.ref b), (.int (own_nf1 v0))])) _
    exact kq)
  obtain ⟨cl593, Ar593, q593, S593, M593, H593, Gf593⟩ := id f578
  have hi594 : ¬ ((1 : Int32) < 0 ∨ cl593.slots.size ≤ ((1 : Int32)).toNatClampNeg) := (inb_of S593 ⟨by decide, by decide⟩)
  have G595 : Go p e below A0 (T590.setTop (mkF m 26 #[.val (.ref a), .val (.ref b567), .val (.int (own_nf1 v0)), .val (.int (1 : Int32)), .unset, .unset] [(.int v1), (.int (own_nf1 v0))])) := fun tq kq => G592 tq (by
    refine X590.baloadBooleans hx (j := (1 : Int32)) (v := (.int v1)) (by rw [e590]; exact Ar593.1) (State.isArrayOf_alike hZ.alike Ar593.2.1) Ar593.2.2 hi594 (H593.at hi594 rfl) (g := (mkF m 25 #[.val (.ref a), .val (.ref b567), .val (.int (own_nf1 v0)), .val (.int (1 : Int32)), .unset, .unset] [(.int (1 : Int32)), (.ref b), (.int (own_nf1 v0))])) rfl rfl (hb hby d3_25) _ ?_
    show Steps p.tables e below (T590.setTop (mkF m 26 #[.val (.ref a), .val (.ref b567), .val (.int (own_nf1 v0)), .val (.int (1 : Int32)), .unset, .unset] [(.int v1), (.int (own_nf1 v0))])) _
    exact kq)
  obtain ⟨t1, hG596, G596⟩ : ∃ (t1 : Int32), (t1 = (own_z v1)) ∧ Go p e below A0 (T590.setTop (mkF m 34 #[.val (.ref a), .val (.ref b567), .val (.int (own_nf1 v0)), .val (.int (1 : Int32)), .unset, .unset] [(.int t1), (.int (own_nf1 v0))])) := by
    by_cases hc597 : v1 = (0 : Int32)
    · have G598 : Go p e below A0 (T590.setTop (mkF m 34 #[.val (.ref a), .val (.ref b567), .val (.int (own_nf1 v0)), .val (.int (1 : Int32)), .unset, .unset] [(.int (1 : Int32)), (.int (own_nf1 v0))])) := fun tq kq => G595 tq (by
        refine XS.ifYes X590.here hx rfl (pc0 := 26) (pc' := 33) rfl (hb hby d3_26) rfl ((if0 _ _).trans (teq hc597).1) (by decide) (by decide) ?_
        show Steps p.tables e below (T590.setTop (mkF m 33 #[.val (.ref a), .val (.ref b567), .val (.int (own_nf1 v0)), .val (.int (1 : Int32)), .unset, .unset] [(.int (own_nf1 v0))])) _
        refine XS.iconst X590.here hx rfl (hb hby d3_33) ?_
        show Steps p.tables e below (T590.setTop (mkF m 34 #[.val (.ref a), .val (.ref b567), .val (.int (own_nf1 v0)), .val (.int (1 : Int32)), .unset, .unset] [(.int (1 : Int32)), (.int (own_nf1 v0))])) _
        exact kq)
      exact ⟨(1 : Int32), (by simp [own_z, own_b, hc597]), G598⟩
    · have G599 : Go p e below A0 (T590.setTop (mkF m 34 #[.val (.ref a), .val (.ref b567), .val (.int (own_nf1 v0)), .val (.int (1 : Int32)), .unset, .unset] [(.int (0 : Int32)), (.int (own_nf1 v0))])) := fun tq kq => G595 tq (by
        refine XS.ifNo X590.here hx rfl (hb hby d3_26) rfl ((if0 _ _).trans (feq hc597).1) ?_
        show Steps p.tables e below (T590.setTop (mkF m 29 #[.val (.ref a), .val (.ref b567), .val (.int (own_nf1 v0)), .val (.int (1 : Int32)), .unset, .unset] [(.int (own_nf1 v0))])) _
        refine XS.iconst X590.here hx rfl (hb hby d3_29) ?_
        show Steps p.tables e below (T590.setTop (mkF m 30 #[.val (.ref a), .val (.ref b567), .val (.int (own_nf1 v0)), .val (.int (1 : Int32)), .unset, .unset] [(.int (0 : Int32)), (.int (own_nf1 v0))])) _
        refine XS.goto X590.here hx rfl (pc0 := 30) (pc' := 34) rfl (hb hby d3_30) (by decide) (by decide) ?_
        show Steps p.tables e below (T590.setTop (mkF m 34 #[.val (.ref a), .val (.ref b567), .val (.int (own_nf1 v0)), .val (.int (1 : Int32)), .unset, .unset] [(.int (0 : Int32)), (.int (own_nf1 v0))])) _
        exact kq)
      exact ⟨(0 : Int32), (by simp [own_z, own_b, hc597]), G599⟩
  subst hG596
  have G600 : Go p e below A0 (T590.setTop (mkF m 13 #[.val (.ref a), .val (.ref b567), .val (.int (own_nf2 v0 v1)), .val (.int (2 : Int32)), .unset, .unset] [(.ref a), (.int (2 : Int32))])) := fun tq kq => G596 tq (by
    refine XS.iadd X590.here hx rfl (hb hby d3_34) rfl ?_
    show Steps p.tables e below (T590.setTop (mkF m 35 #[.val (.ref a), .val (.ref b567), .val (.int (own_nf1 v0)), .val (.int (1 : Int32)), .unset, .unset] [(.int ((own_nf1 v0) + (own_z v1)))])) _
    rw [show ((own_nf1 v0) + (own_z v1)) = (own_nf2 v0 v1) from rfl]
    show Steps p.tables e below (T590.setTop (mkF m 35 #[.val (.ref a), .val (.ref b567), .val (.int (own_nf1 v0)), .val (.int (1 : Int32)), .unset, .unset] [(.int (own_nf2 v0 v1))])) _
    refine XS.istoreN X590.here hx rfl (hb hby d3_35) rfl (l' := #[.val (.ref a), .val (.ref b567), .val (.int (own_nf2 v0 v1)), .val (.int (1 : Int32)), .unset, .unset]) rfl ?_
    show Steps p.tables e below (T590.setTop (mkF m 36 #[.val (.ref a), .val (.ref b567), .val (.int (own_nf2 v0 v1)), .val (.int (1 : Int32)), .unset, .unset] [])) _
    refine XS.iinc X590.here hx rfl (hb hby d3_36) rfl (l' := #[.val (.ref a), .val (.ref b567), .val (.int (own_nf2 v0 v1)), .val (.int ((1 : Int32) + (1 : Int32))), .unset, .unset]) rfl ?_
    show Steps p.tables e below (T590.setTop (mkF m 39 #[.val (.ref a), .val (.ref b567), .val (.int (own_nf2 v0 v1)), .val (.int ((1 : Int32) + (1 : Int32))), .unset, .unset] [])) _
    rw [show ((1 : Int32) + (1 : Int32)) = (2 : Int32) from (by decide : ((1 : Int32) + (1 : Int32)) = (2 : Int32))]
    show Steps p.tables e below (T590.setTop (mkF m 39 #[.val (.ref a), .val (.ref b567), .val (.int (own_nf2 v0 v1)), .val (.int (2 : Int32)), .unset, .unset] [])) _
    refine XS.goto X590.here hx rfl (pc0 := 39) (pc' := 11) rfl (hb hby d3_39) (by decide) (by decide) ?_
    show Steps p.tables e below (T590.setTop (mkF m 11 #[.val (.ref a), .val (.ref b567), .val (.int (own_nf2 v0 v1)), .val (.int (2 : Int32)), .unset, .unset] [])) _
    refine XS.iloadN X590.here hx rfl (hb hby d3_11) rfl ?_
    show Steps p.tables e below (T590.setTop (mkF m 12 #[.val (.ref a), .val (.ref b567), .val (.int (own_nf2 v0 v1)), .val (.int (2 : Int32)), .unset, .unset] [(.int (2 : Int32))])) _
    refine XS.aloadN X590.here hx rfl (hb hby d3_12) rfl rfl ?_
    show Steps p.tables e below (T590.setTop (mkF m 13 #[.val (.ref a), .val (.ref b567), .val (.int (own_nf2 v0 v1)), .val (.int (2 : Int32)), .unset, .unset] [(.ref a), (.int (2 : Int32))])) _
    exact kq)
  obtain ⟨T601, X601, e601, st601⟩ := getF X590 hx hZ hown (host := "") (Or.inl (hw _ (List.mem_of_getElem? (i := 28) rfl))) Via.refl e590 f570 (g := (mkF m 13 #[.val (.ref a), .val (.ref b567), .val (.int (own_nf2 v0 v1)), .val (.int (2 : Int32)), .unset, .unset] [(.ref a), (.int (2 : Int32))])) rfl rfl (hb hby d3_13)
  have G602 : Go p e below A0 (T601.setTop (mkF m 16 #[.val (.ref a), .val (.ref b567), .val (.int (own_nf2 v0 v1)), .val (.int (2 : Int32)), .unset, .unset] [(.int (5 : Int32)), (.int (2 : Int32))])) := fun tq kq => G600 tq (st601 _ kq)
  have G603 : Go p e below A0 (T601.setTop (mkF m 21 #[.val (.ref a), .val (.ref b567), .val (.int (own_nf2 v0 v1)), .val (.int (2 : Int32)), .unset, .unset] [(.ref a), (.int (own_nf2 v0 v1))])) := fun tq kq => G602 tq (by
    refine XS.icmpNo X601.here hx rfl (hb hby d3_16) rfl (by decide) ?_
    show Steps p.tables e below (T601.setTop (mkF m 19 #[.val (.ref a), .val (.ref b567), .val (.int (own_nf2 v0 v1)), .val (.int (2 : Int32)), .unset, .unset] [])) _
    refine XS.iloadN X601.here hx rfl (hb hby d3_19) rfl ?_
    show Steps p.tables e below (T601.setTop (mkF m 20 #[.val (.ref a), .val (.ref b567), .val (.int (own_nf2 v0 v1)), .val (.int (2 : Int32)), .unset, .unset] [(.int (own_nf2 v0 v1))])) _
    refine XS.aloadN X601.here hx rfl (hb hby d3_20) rfl rfl ?_
    show Steps p.tables e below (T601.setTop (mkF m 21 #[.val (.ref a), .val (.ref b567), .val (.int (own_nf2 v0 v1)), .val (.int (2 : Int32)), .unset, .unset] [(.ref a), (.int (own_nf2 v0 v1))])) _
    exact kq)
  obtain ⟨T604, X604, e604, st604⟩ := getF X601 hx hZ hown (host := "") (Or.inl (hw _ (List.mem_of_getElem? (i := 19) rfl))) Via.refl e601 f574 (g := (mkF m 21 #[.val (.ref a), .val (.ref b567), .val (.int (own_nf2 v0 v1)), .val (.int (2 : Int32)), .unset, .unset] [(.ref a), (.int (own_nf2 v0 v1))])) rfl rfl (hb hby d3_21)
  have G605 : Go p e below A0 (T604.setTop (mkF m 24 #[.val (.ref a), .val (.ref b567), .val (.int (own_nf2 v0 v1)), .val (.int (2 : Int32)), .unset, .unset] [(.ref b), (.int (own_nf2 v0 v1))])) := fun tq kq => G603 tq (st604 _ kq)
  have G606 : Go p e below A0 (T604.setTop (mkF m 25 #[.val (.ref a), .val (.ref b567), .val (.int (own_nf2 v0 v1)), .val (.int (2 : Int32)), .unset, .unset] [(.int (2 : Int32)), (.ref b), (.int (own_nf2 v0 v1))])) := fun tq kq => G605 tq (by
    refine XS.iloadN X604.here hx rfl (hb hby d3_24) rfl ?_
    show Steps p.tables e below (T604.setTop (mkF m 25 #[.val (.ref a), .val (.ref b567), .val (.int (own_nf2 v0 v1)), .val (.int (2 : Int32)), .unset, .unset] [(.int (2 : Int32)), (.ref b), (.int (own_nf2 v0 v1))])) _
    exact kq)
  obtain ⟨cl607, Ar607, q607, S607, M607, H607, Gf607⟩ := id f578
  have hi608 : ¬ ((2 : Int32) < 0 ∨ cl607.slots.size ≤ ((2 : Int32)).toNatClampNeg) := (inb_of S607 ⟨by decide, by decide⟩)
  have G609 : Go p e below A0 (T604.setTop (mkF m 26 #[.val (.ref a), .val (.ref b567), .val (.int (own_nf2 v0 v1)), .val (.int (2 : Int32)), .unset, .unset] [(.int v2), (.int (own_nf2 v0 v1))])) := fun tq kq => G606 tq (by
    refine X604.baloadBooleans hx (j := (2 : Int32)) (v := (.int v2)) (by rw [e604]; exact Ar607.1) (State.isArrayOf_alike hZ.alike Ar607.2.1) Ar607.2.2 hi608 (H607.at hi608 rfl) (g := (mkF m 25 #[.val (.ref a), .val (.ref b567), .val (.int (own_nf2 v0 v1)), .val (.int (2 : Int32)), .unset, .unset] [(.int (2 : Int32)), (.ref b), (.int (own_nf2 v0 v1))])) rfl rfl (hb hby d3_25) _ ?_
    show Steps p.tables e below (T604.setTop (mkF m 26 #[.val (.ref a), .val (.ref b567), .val (.int (own_nf2 v0 v1)), .val (.int (2 : Int32)), .unset, .unset] [(.int v2), (.int (own_nf2 v0 v1))])) _
    exact kq)
  obtain ⟨t2, hG610, G610⟩ : ∃ (t2 : Int32), (t2 = (own_z v2)) ∧ Go p e below A0 (T604.setTop (mkF m 34 #[.val (.ref a), .val (.ref b567), .val (.int (own_nf2 v0 v1)), .val (.int (2 : Int32)), .unset, .unset] [(.int t2), (.int (own_nf2 v0 v1))])) := by
    by_cases hc611 : v2 = (0 : Int32)
    · have G612 : Go p e below A0 (T604.setTop (mkF m 34 #[.val (.ref a), .val (.ref b567), .val (.int (own_nf2 v0 v1)), .val (.int (2 : Int32)), .unset, .unset] [(.int (1 : Int32)), (.int (own_nf2 v0 v1))])) := fun tq kq => G609 tq (by
        refine XS.ifYes X604.here hx rfl (pc0 := 26) (pc' := 33) rfl (hb hby d3_26) rfl ((if0 _ _).trans (teq hc611).1) (by decide) (by decide) ?_
        show Steps p.tables e below (T604.setTop (mkF m 33 #[.val (.ref a), .val (.ref b567), .val (.int (own_nf2 v0 v1)), .val (.int (2 : Int32)), .unset, .unset] [(.int (own_nf2 v0 v1))])) _
        refine XS.iconst X604.here hx rfl (hb hby d3_33) ?_
        show Steps p.tables e below (T604.setTop (mkF m 34 #[.val (.ref a), .val (.ref b567), .val (.int (own_nf2 v0 v1)), .val (.int (2 : Int32)), .unset, .unset] [(.int (1 : Int32)), (.int (own_nf2 v0 v1))])) _
        exact kq)
      exact ⟨(1 : Int32), (by simp [own_z, own_b, hc611]), G612⟩
    · have G613 : Go p e below A0 (T604.setTop (mkF m 34 #[.val (.ref a), .val (.ref b567), .val (.int (own_nf2 v0 v1)), .val (.int (2 : Int32)), .unset, .unset] [(.int (0 : Int32)), (.int (own_nf2 v0 v1))])) := fun tq kq => G609 tq (by
        refine XS.ifNo X604.here hx rfl (hb hby d3_26) rfl ((if0 _ _).trans (feq hc611).1) ?_
        show Steps p.tables e below (T604.setTop (mkF m 29 #[.val (.ref a), .val (.ref b567), .val (.int (own_nf2 v0 v1)), .val (.int (2 : Int32)), .unset, .unset] [(.int (own_nf2 v0 v1))])) _
        refine XS.iconst X604.here hx rfl (hb hby d3_29) ?_
        show Steps p.tables e below (T604.setTop (mkF m 30 #[.val (.ref a), .val (.ref b567), .val (.int (own_nf2 v0 v1)), .val (.int (2 : Int32)), .unset, .unset] [(.int (0 : Int32)), (.int (own_nf2 v0 v1))])) _
        refine XS.goto X604.here hx rfl (pc0 := 30) (pc' := 34) rfl (hb hby d3_30) (by decide) (by decide) ?_
        show Steps p.tables e below (T604.setTop (mkF m 34 #[.val (.ref a), .val (.ref b567), .val (.int (own_nf2 v0 v1)), .val (.int (2 : Int32)), .unset, .unset] [(.int (0 : Int32)), (.int (own_nf2 v0 v1))])) _
        exact kq)
      exact ⟨(0 : Int32), (by simp [own_z, own_b, hc611]), G613⟩
  subst hG610
  have G614 : Go p e below A0 (T604.setTop (mkF m 13 #[.val (.ref a), .val (.ref b567), .val (.int (own_nf3 v0 v1 v2)), .val (.int (3 : Int32)), .unset, .unset] [(.ref a), (.int (3 : Int32))])) := fun tq kq => G610 tq (by
    refine XS.iadd X604.here hx rfl (hb hby d3_34) rfl ?_
    show Steps p.tables e below (T604.setTop (mkF m 35 #[.val (.ref a), .val (.ref b567), .val (.int (own_nf2 v0 v1)), .val (.int (2 : Int32)), .unset, .unset] [(.int ((own_nf2 v0 v1) + (own_z v2)))])) _
    rw [show ((own_nf2 v0 v1) + (own_z v2)) = (own_nf3 v0 v1 v2) from rfl]
    show Steps p.tables e below (T604.setTop (mkF m 35 #[.val (.ref a), .val (.ref b567), .val (.int (own_nf2 v0 v1)), .val (.int (2 : Int32)), .unset, .unset] [(.int (own_nf3 v0 v1 v2))])) _
    refine XS.istoreN X604.here hx rfl (hb hby d3_35) rfl (l' := #[.val (.ref a), .val (.ref b567), .val (.int (own_nf3 v0 v1 v2)), .val (.int (2 : Int32)), .unset, .unset]) rfl ?_
    show Steps p.tables e below (T604.setTop (mkF m 36 #[.val (.ref a), .val (.ref b567), .val (.int (own_nf3 v0 v1 v2)), .val (.int (2 : Int32)), .unset, .unset] [])) _
    refine XS.iinc X604.here hx rfl (hb hby d3_36) rfl (l' := #[.val (.ref a), .val (.ref b567), .val (.int (own_nf3 v0 v1 v2)), .val (.int ((2 : Int32) + (1 : Int32))), .unset, .unset]) rfl ?_
    show Steps p.tables e below (T604.setTop (mkF m 39 #[.val (.ref a), .val (.ref b567), .val (.int (own_nf3 v0 v1 v2)), .val (.int ((2 : Int32) + (1 : Int32))), .unset, .unset] [])) _
    rw [show ((2 : Int32) + (1 : Int32)) = (3 : Int32) from (by decide : ((2 : Int32) + (1 : Int32)) = (3 : Int32))]
    show Steps p.tables e below (T604.setTop (mkF m 39 #[.val (.ref a), .val (.ref b567), .val (.int (own_nf3 v0 v1 v2)), .val (.int (3 : Int32)), .unset, .unset] [])) _
    refine XS.goto X604.here hx rfl (pc0 := 39) (pc' := 11) rfl (hb hby d3_39) (by decide) (by decide) ?_
    show Steps p.tables e below (T604.setTop (mkF m 11 #[.val (.ref a), .val (.ref b567), .val (.int (own_nf3 v0 v1 v2)), .val (.int (3 : Int32)), .unset, .unset] [])) _
    refine XS.iloadN X604.here hx rfl (hb hby d3_11) rfl ?_
    show Steps p.tables e below (T604.setTop (mkF m 12 #[.val (.ref a), .val (.ref b567), .val (.int (own_nf3 v0 v1 v2)), .val (.int (3 : Int32)), .unset, .unset] [(.int (3 : Int32))])) _
    refine XS.aloadN X604.here hx rfl (hb hby d3_12) rfl rfl ?_
    show Steps p.tables e below (T604.setTop (mkF m 13 #[.val (.ref a), .val (.ref b567), .val (.int (own_nf3 v0 v1 v2)), .val (.int (3 : Int32)), .unset, .unset] [(.ref a), (.int (3 : Int32))])) _
    exact kq)
  obtain ⟨T615, X615, e615, st615⟩ := getF X604 hx hZ hown (host := "") (Or.inl (hw _ (List.mem_of_getElem? (i := 28) rfl))) Via.refl e604 f570 (g := (mkF m 13 #[.val (.ref a), .val (.ref b567), .val (.int (own_nf3 v0 v1 v2)), .val (.int (3 : Int32)), .unset, .unset] [(.ref a), (.int (3 : Int32))])) rfl rfl (hb hby d3_13)
  have G616 : Go p e below A0 (T615.setTop (mkF m 16 #[.val (.ref a), .val (.ref b567), .val (.int (own_nf3 v0 v1 v2)), .val (.int (3 : Int32)), .unset, .unset] [(.int (5 : Int32)), (.int (3 : Int32))])) := fun tq kq => G614 tq (st615 _ kq)
  have G617 : Go p e below A0 (T615.setTop (mkF m 21 #[.val (.ref a), .val (.ref b567), .val (.int (own_nf3 v0 v1 v2)), .val (.int (3 : Int32)), .unset, .unset] [(.ref a), (.int (own_nf3 v0 v1 v2))])) := fun tq kq => G616 tq (by
    refine XS.icmpNo X615.here hx rfl (hb hby d3_16) rfl (by decide) ?_
    show Steps p.tables e below (T615.setTop (mkF m 19 #[.val (.ref a), .val (.ref b567), .val (.int (own_nf3 v0 v1 v2)), .val (.int (3 : Int32)), .unset, .unset] [])) _
    refine XS.iloadN X615.here hx rfl (hb hby d3_19) rfl ?_
    show Steps p.tables e below (T615.setTop (mkF m 20 #[.val (.ref a), .val (.ref b567), .val (.int (own_nf3 v0 v1 v2)), .val (.int (3 : Int32)), .unset, .unset] [(.int (own_nf3 v0 v1 v2))])) _
    refine XS.aloadN X615.here hx rfl (hb hby d3_20) rfl rfl ?_
    show Steps p.tables e below (T615.setTop (mkF m 21 #[.val (.ref a), .val (.ref b567), .val (.int (own_nf3 v0 v1 v2)), .val (.int (3 : Int32)), .unset, .unset] [(.ref a), (.int (own_nf3 v0 v1 v2))])) _
    exact kq)
  obtain ⟨T618, X618, e618, st618⟩ := getF X615 hx hZ hown (host := "") (Or.inl (hw _ (List.mem_of_getElem? (i := 19) rfl))) Via.refl e615 f574 (g := (mkF m 21 #[.val (.ref a), .val (.ref b567), .val (.int (own_nf3 v0 v1 v2)), .val (.int (3 : Int32)), .unset, .unset] [(.ref a), (.int (own_nf3 v0 v1 v2))])) rfl rfl (hb hby d3_21)
  have G619 : Go p e below A0 (T618.setTop (mkF m 24 #[.val (.ref a), .val (.ref b567), .val (.int (own_nf3 v0 v1 v2)), .val (.int (3 : Int32)), .unset, .unset] [(.ref b), (.int (own_nf3 v0 v1 v2))])) := fun tq kq => G617 tq (st618 _ kq)
  have G620 : Go p e below A0 (T618.setTop (mkF m 25 #[.val (.ref a), .val (.ref b567), .val (.int (own_nf3 v0 v1 v2)), .val (.int (3 : Int32)), .unset, .unset] [(.int (3 : Int32)), (.ref b), (.int (own_nf3 v0 v1 v2))])) := fun tq kq => G619 tq (by
    refine XS.iloadN X618.here hx rfl (hb hby d3_24) rfl ?_
    show Steps p.tables e below (T618.setTop (mkF m 25 #[.val (.ref a), .val (.ref b567), .val (.int (own_nf3 v0 v1 v2)), .val (.int (3 : Int32)), .unset, .unset] [(.int (3 : Int32)), (.ref b), (.int (own_nf3 v0 v1 v2))])) _
    exact kq)
  obtain ⟨cl621, Ar621, q621, S621, M621, H621, Gf621⟩ := id f578
  have hi622 : ¬ ((3 : Int32) < 0 ∨ cl621.slots.size ≤ ((3 : Int32)).toNatClampNeg) := (inb_of S621 ⟨by decide, by decide⟩)
  have G623 : Go p e below A0 (T618.setTop (mkF m 26 #[.val (.ref a), .val (.ref b567), .val (.int (own_nf3 v0 v1 v2)), .val (.int (3 : Int32)), .unset, .unset] [(.int v3), (.int (own_nf3 v0 v1 v2))])) := fun tq kq => G620 tq (by
    refine X618.baloadBooleans hx (j := (3 : Int32)) (v := (.int v3)) (by rw [e618]; exact Ar621.1) (State.isArrayOf_alike hZ.alike Ar621.2.1) Ar621.2.2 hi622 (H621.at hi622 rfl) (g := (mkF m 25 #[.val (.ref a), .val (.ref b567), .val (.int (own_nf3 v0 v1 v2)), .val (.int (3 : Int32)), .unset, .unset] [(.int (3 : Int32)), (.ref b), (.int (own_nf3 v0 v1 v2))])) rfl rfl (hb hby d3_25) _ ?_
    show Steps p.tables e below (T618.setTop (mkF m 26 #[.val (.ref a), .val (.ref b567), .val (.int (own_nf3 v0 v1 v2)), .val (.int (3 : Int32)), .unset, .unset] [(.int v3), (.int (own_nf3 v0 v1 v2))])) _
    exact kq)
  obtain ⟨t3, hG624, G624⟩ : ∃ (t3 : Int32), (t3 = (own_z v3)) ∧ Go p e below A0 (T618.setTop (mkF m 34 #[.val (.ref a), .val (.ref b567), .val (.int (own_nf3 v0 v1 v2)), .val (.int (3 : Int32)), .unset, .unset] [(.int t3), (.int (own_nf3 v0 v1 v2))])) := by
    by_cases hc625 : v3 = (0 : Int32)
    · have G626 : Go p e below A0 (T618.setTop (mkF m 34 #[.val (.ref a), .val (.ref b567), .val (.int (own_nf3 v0 v1 v2)), .val (.int (3 : Int32)), .unset, .unset] [(.int (1 : Int32)), (.int (own_nf3 v0 v1 v2))])) := fun tq kq => G623 tq (by
        refine XS.ifYes X618.here hx rfl (pc0 := 26) (pc' := 33) rfl (hb hby d3_26) rfl ((if0 _ _).trans (teq hc625).1) (by decide) (by decide) ?_
        show Steps p.tables e below (T618.setTop (mkF m 33 #[.val (.ref a), .val (.ref b567), .val (.int (own_nf3 v0 v1 v2)), .val (.int (3 : Int32)), .unset, .unset] [(.int (own_nf3 v0 v1 v2))])) _
        refine XS.iconst X618.here hx rfl (hb hby d3_33) ?_
        show Steps p.tables e below (T618.setTop (mkF m 34 #[.val (.ref a), .val (.ref b567), .val (.int (own_nf3 v0 v1 v2)), .val (.int (3 : Int32)), .unset, .unset] [(.int (1 : Int32)), (.int (own_nf3 v0 v1 v2))])) _
        exact kq)
      exact ⟨(1 : Int32), (by simp [own_z, own_b, hc625]), G626⟩
    · have G627 : Go p e below A0 (T618.setTop (mkF m 34 #[.val (.ref a), .val (.ref b567), .val (.int (own_nf3 v0 v1 v2)), .val (.int (3 : Int32)), .unset, .unset] [(.int (0 : Int32)), (.int (own_nf3 v0 v1 v2))])) := fun tq kq => G623 tq (by
        refine XS.ifNo X618.here hx rfl (hb hby d3_26) rfl ((if0 _ _).trans (feq hc625).1) ?_
        show Steps p.tables e below (T618.setTop (mkF m 29 #[.val (.ref a), .val (.ref b567), .val (.int (own_nf3 v0 v1 v2)), .val (.int (3 : Int32)), .unset, .unset] [(.int (own_nf3 v0 v1 v2))])) _
        refine XS.iconst X618.here hx rfl (hb hby d3_29) ?_
        show Steps p.tables e below (T618.setTop (mkF m 30 #[.val (.ref a), .val (.ref b567), .val (.int (own_nf3 v0 v1 v2)), .val (.int (3 : Int32)), .unset, .unset] [(.int (0 : Int32)), (.int (own_nf3 v0 v1 v2))])) _
        refine XS.goto X618.here hx rfl (pc0 := 30) (pc' := 34) rfl (hb hby d3_30) (by decide) (by decide) ?_
        show Steps p.tables e below (T618.setTop (mkF m 34 #[.val (.ref a), .val (.ref b567), .val (.int (own_nf3 v0 v1 v2)), .val (.int (3 : Int32)), .unset, .unset] [(.int (0 : Int32)), (.int (own_nf3 v0 v1 v2))])) _
        exact kq)
      exact ⟨(0 : Int32), (by simp [own_z, own_b, hc625]), G627⟩
  subst hG624
  have G628 : Go p e below A0 (T618.setTop (mkF m 13 #[.val (.ref a), .val (.ref b567), .val (.int (own_nf4 v0 v1 v2 v3)), .val (.int (4 : Int32)), .unset, .unset] [(.ref a), (.int (4 : Int32))])) := fun tq kq => G624 tq (by
    refine XS.iadd X618.here hx rfl (hb hby d3_34) rfl ?_
    show Steps p.tables e below (T618.setTop (mkF m 35 #[.val (.ref a), .val (.ref b567), .val (.int (own_nf3 v0 v1 v2)), .val (.int (3 : Int32)), .unset, .unset] [(.int ((own_nf3 v0 v1 v2) + (own_z v3)))])) _
    rw [show ((own_nf3 v0 v1 v2) + (own_z v3)) = (own_nf4 v0 v1 v2 v3) from rfl]
    show Steps p.tables e below (T618.setTop (mkF m 35 #[.val (.ref a), .val (.ref b567), .val (.int (own_nf3 v0 v1 v2)), .val (.int (3 : Int32)), .unset, .unset] [(.int (own_nf4 v0 v1 v2 v3))])) _
    refine XS.istoreN X618.here hx rfl (hb hby d3_35) rfl (l' := #[.val (.ref a), .val (.ref b567), .val (.int (own_nf4 v0 v1 v2 v3)), .val (.int (3 : Int32)), .unset, .unset]) rfl ?_
    show Steps p.tables e below (T618.setTop (mkF m 36 #[.val (.ref a), .val (.ref b567), .val (.int (own_nf4 v0 v1 v2 v3)), .val (.int (3 : Int32)), .unset, .unset] [])) _
    refine XS.iinc X618.here hx rfl (hb hby d3_36) rfl (l' := #[.val (.ref a), .val (.ref b567), .val (.int (own_nf4 v0 v1 v2 v3)), .val (.int ((3 : Int32) + (1 : Int32))), .unset, .unset]) rfl ?_
    show Steps p.tables e below (T618.setTop (mkF m 39 #[.val (.ref a), .val (.ref b567), .val (.int (own_nf4 v0 v1 v2 v3)), .val (.int ((3 : Int32) + (1 : Int32))), .unset, .unset] [])) _
    rw [show ((3 : Int32) + (1 : Int32)) = (4 : Int32) from (by decide : ((3 : Int32) + (1 : Int32)) = (4 : Int32))]
    show Steps p.tables e below (T618.setTop (mkF m 39 #[.val (.ref a), .val (.ref b567), .val (.int (own_nf4 v0 v1 v2 v3)), .val (.int (4 : Int32)), .unset, .unset] [])) _
    refine XS.goto X618.here hx rfl (pc0 := 39) (pc' := 11) rfl (hb hby d3_39) (by decide) (by decide) ?_
    show Steps p.tables e below (T618.setTop (mkF m 11 #[.val (.ref a), .val (.ref b567), .val (.int (own_nf4 v0 v1 v2 v3)), .val (.int (4 : Int32)), .unset, .unset] [])) _
    refine XS.iloadN X618.here hx rfl (hb hby d3_11) rfl ?_
    show Steps p.tables e below (T618.setTop (mkF m 12 #[.val (.ref a), .val (.ref b567), .val (.int (own_nf4 v0 v1 v2 v3)), .val (.int (4 : Int32)), .unset, .unset] [(.int (4 : Int32))])) _
    refine XS.aloadN X618.here hx rfl (hb hby d3_12) rfl rfl ?_
    show Steps p.tables e below (T618.setTop (mkF m 13 #[.val (.ref a), .val (.ref b567), .val (.int (own_nf4 v0 v1 v2 v3)), .val (.int (4 : Int32)), .unset, .unset] [(.ref a), (.int (4 : Int32))])) _
    exact kq)
  obtain ⟨T629, X629, e629, st629⟩ := getF X618 hx hZ hown (host := "") (Or.inl (hw _ (List.mem_of_getElem? (i := 28) rfl))) Via.refl e618 f570 (g := (mkF m 13 #[.val (.ref a), .val (.ref b567), .val (.int (own_nf4 v0 v1 v2 v3)), .val (.int (4 : Int32)), .unset, .unset] [(.ref a), (.int (4 : Int32))])) rfl rfl (hb hby d3_13)
  have G630 : Go p e below A0 (T629.setTop (mkF m 16 #[.val (.ref a), .val (.ref b567), .val (.int (own_nf4 v0 v1 v2 v3)), .val (.int (4 : Int32)), .unset, .unset] [(.int (5 : Int32)), (.int (4 : Int32))])) := fun tq kq => G628 tq (st629 _ kq)
  have G631 : Go p e below A0 (T629.setTop (mkF m 21 #[.val (.ref a), .val (.ref b567), .val (.int (own_nf4 v0 v1 v2 v3)), .val (.int (4 : Int32)), .unset, .unset] [(.ref a), (.int (own_nf4 v0 v1 v2 v3))])) := fun tq kq => G630 tq (by
    refine XS.icmpNo X629.here hx rfl (hb hby d3_16) rfl (by decide) ?_
    show Steps p.tables e below (T629.setTop (mkF m 19 #[.val (.ref a), .val (.ref b567), .val (.int (own_nf4 v0 v1 v2 v3)), .val (.int (4 : Int32)), .unset, .unset] [])) _
    refine XS.iloadN X629.here hx rfl (hb hby d3_19) rfl ?_
    show Steps p.tables e below (T629.setTop (mkF m 20 #[.val (.ref a), .val (.ref b567), .val (.int (own_nf4 v0 v1 v2 v3)), .val (.int (4 : Int32)), .unset, .unset] [(.int (own_nf4 v0 v1 v2 v3))])) _
    refine XS.aloadN X629.here hx rfl (hb hby d3_20) rfl rfl ?_
    show Steps p.tables e below (T629.setTop (mkF m 21 #[.val (.ref a), .val (.ref b567), .val (.int (own_nf4 v0 v1 v2 v3)), .val (.int (4 : Int32)), .unset, .unset] [(.ref a), (.int (own_nf4 v0 v1 v2 v3))])) _
    exact kq)
  obtain ⟨T632, X632, e632, st632⟩ := getF X629 hx hZ hown (host := "") (Or.inl (hw _ (List.mem_of_getElem? (i := 19) rfl))) Via.refl e629 f574 (g := (mkF m 21 #[.val (.ref a), .val (.ref b567), .val (.int (own_nf4 v0 v1 v2 v3)), .val (.int (4 : Int32)), .unset, .unset] [(.ref a), (.int (own_nf4 v0 v1 v2 v3))])) rfl rfl (hb hby d3_21)
  have G633 : Go p e below A0 (T632.setTop (mkF m 24 #[.val (.ref a), .val (.ref b567), .val (.int (own_nf4 v0 v1 v2 v3)), .val (.int (4 : Int32)), .unset, .unset] [(.ref b), (.int (own_nf4 v0 v1 v2 v3))])) := fun tq kq => G631 tq (st632 _ kq)
  have G634 : Go p e below A0 (T632.setTop (mkF m 25 #[.val (.ref a), .val (.ref b567), .val (.int (own_nf4 v0 v1 v2 v3)), .val (.int (4 : Int32)), .unset, .unset] [(.int (4 : Int32)), (.ref b), (.int (own_nf4 v0 v1 v2 v3))])) := fun tq kq => G633 tq (by
    refine XS.iloadN X632.here hx rfl (hb hby d3_24) rfl ?_
    show Steps p.tables e below (T632.setTop (mkF m 25 #[.val (.ref a), .val (.ref b567), .val (.int (own_nf4 v0 v1 v2 v3)), .val (.int (4 : Int32)), .unset, .unset] [(.int (4 : Int32)), (.ref b), (.int (own_nf4 v0 v1 v2 v3))])) _
    exact kq)
  obtain ⟨cl635, Ar635, q635, S635, M635, H635, Gf635⟩ := id f578
  have hi636 : ¬ ((4 : Int32) < 0 ∨ cl635.slots.size ≤ ((4 : Int32)).toNatClampNeg) := (inb_of S635 ⟨by decide, by decide⟩)
  have G637 : Go p e below A0 (T632.setTop (mkF m 26 #[.val (.ref a), .val (.ref b567), .val (.int (own_nf4 v0 v1 v2 v3)), .val (.int (4 : Int32)), .unset, .unset] [(.int v4), (.int (own_nf4 v0 v1 v2 v3))])) := fun tq kq => G634 tq (by
    refine X632.baloadBooleans hx (j := (4 : Int32)) (v := (.int v4)) (by rw [e632]; exact Ar635.1) (State.isArrayOf_alike hZ.alike Ar635.2.1) Ar635.2.2 hi636 (H635.at hi636 rfl) (g := (mkF m 25 #[.val (.ref a), .val (.ref b567), .val (.int (own_nf4 v0 v1 v2 v3)), .val (.int (4 : Int32)), .unset, .unset] [(.int (4 : Int32)), (.ref b), (.int (own_nf4 v0 v1 v2 v3))])) rfl rfl (hb hby d3_25) _ ?_
    show Steps p.tables e below (T632.setTop (mkF m 26 #[.val (.ref a), .val (.ref b567), .val (.int (own_nf4 v0 v1 v2 v3)), .val (.int (4 : Int32)), .unset, .unset] [(.int v4), (.int (own_nf4 v0 v1 v2 v3))])) _
    exact kq)
  obtain ⟨t4, hG638, G638⟩ : ∃ (t4 : Int32), (t4 = (own_z v4)) ∧ Go p e below A0 (T632.setTop (mkF m 34 #[.val (.ref a), .val (.ref b567), .val (.int (own_nf4 v0 v1 v2 v3)), .val (.int (4 : Int32)), .unset, .unset] [(.int t4), (.int (own_nf4 v0 v1 v2 v3))])) := by
    by_cases hc639 : v4 = (0 : Int32)
    · have G640 : Go p e below A0 (T632.setTop (mkF m 34 #[.val (.ref a), .val (.ref b567), .val (.int (own_nf4 v0 v1 v2 v3)), .val (.int (4 : Int32)), .unset, .unset] [(.int (1 : Int32)), (.int (own_nf4 v0 v1 v2 v3))])) := fun tq kq => G637 tq (by
        refine XS.ifYes X632.here hx rfl (pc0 := 26) (pc' := 33) rfl (hb hby d3_26) rfl ((if0 _ _).trans (teq hc639).1) (by decide) (by decide) ?_
        show Steps p.tables e below (T632.setTop (mkF m 33 #[.val (.ref a), .val (.ref b567), .val (.int (own_nf4 v0 v1 v2 v3)), .val (.int (4 : Int32)), .unset, .unset] [(.int (own_nf4 v0 v1 v2 v3))])) _
        refine XS.iconst X632.here hx rfl (hb hby d3_33) ?_
        show Steps p.tables e below (T632.setTop (mkF m 34 #[.val (.ref a), .val (.ref b567), .val (.int (own_nf4 v0 v1 v2 v3)), .val (.int (4 : Int32)), .unset, .unset] [(.int (1 : Int32)), (.int (own_nf4 v0 v1 v2 v3))])) _
        exact kq)
      exact ⟨(1 : Int32), (by simp [own_z, own_b, hc639]), G640⟩
    · have G641 : Go p e below A0 (T632.setTop (mkF m 34 #[.val (.ref a), .val (.ref b567), .val (.int (own_nf4 v0 v1 v2 v3)), .val (.int (4 : Int32)), .unset, .unset] [(.int (0 : Int32)), (.int (own_nf4 v0 v1 v2 v3))])) := fun tq kq => G637 tq (by
        refine XS.ifNo X632.here hx rfl (hb hby d3_26) rfl ((if0 _ _).trans (feq hc639).1) ?_
        show Steps p.tables e below (T632.setTop (mkF m 29 #[.val (.ref a), .val (.ref b567), .val (.int (own_nf4 v0 v1 v2 v3)), .val (.int (4 : Int32)), .unset, .unset] [(.int (own_nf4 v0 v1 v2 v3))])) _
        refine XS.iconst X632.here hx rfl (hb hby d3_29) ?_
        show Steps p.tables e below (T632.setTop (mkF m 30 #[.val (.ref a), .val (.ref b567), .val (.int (own_nf4 v0 v1 v2 v3)), .val (.int (4 : Int32)), .unset, .unset] [(.int (0 : Int32)), (.int (own_nf4 v0 v1 v2 v3))])) _
        refine XS.goto X632.here hx rfl (pc0 := 30) (pc' := 34) rfl (hb hby d3_30) (by decide) (by decide) ?_
        show Steps p.tables e below (T632.setTop (mkF m 34 #[.val (.ref a), .val (.ref b567), .val (.int (own_nf4 v0 v1 v2 v3)), .val (.int (4 : Int32)), .unset, .unset] [(.int (0 : Int32)), (.int (own_nf4 v0 v1 v2 v3))])) _
        exact kq)
      exact ⟨(0 : Int32), (by simp [own_z, own_b, hc639]), G641⟩
  subst hG638
  have G642 : Go p e below A0 (T632.setTop (mkF m 13 #[.val (.ref a), .val (.ref b567), .val (.int (own_nf5 v0 v1 v2 v3 v4)), .val (.int (5 : Int32)), .unset, .unset] [(.ref a), (.int (5 : Int32))])) := fun tq kq => G638 tq (by
    refine XS.iadd X632.here hx rfl (hb hby d3_34) rfl ?_
    show Steps p.tables e below (T632.setTop (mkF m 35 #[.val (.ref a), .val (.ref b567), .val (.int (own_nf4 v0 v1 v2 v3)), .val (.int (4 : Int32)), .unset, .unset] [(.int ((own_nf4 v0 v1 v2 v3) + (own_z v4)))])) _
    rw [show ((own_nf4 v0 v1 v2 v3) + (own_z v4)) = (own_nf5 v0 v1 v2 v3 v4) from rfl]
    show Steps p.tables e below (T632.setTop (mkF m 35 #[.val (.ref a), .val (.ref b567), .val (.int (own_nf4 v0 v1 v2 v3)), .val (.int (4 : Int32)), .unset, .unset] [(.int (own_nf5 v0 v1 v2 v3 v4))])) _
    refine XS.istoreN X632.here hx rfl (hb hby d3_35) rfl (l' := #[.val (.ref a), .val (.ref b567), .val (.int (own_nf5 v0 v1 v2 v3 v4)), .val (.int (4 : Int32)), .unset, .unset]) rfl ?_
    show Steps p.tables e below (T632.setTop (mkF m 36 #[.val (.ref a), .val (.ref b567), .val (.int (own_nf5 v0 v1 v2 v3 v4)), .val (.int (4 : Int32)), .unset, .unset] [])) _
    refine XS.iinc X632.here hx rfl (hb hby d3_36) rfl (l' := #[.val (.ref a), .val (.ref b567), .val (.int (own_nf5 v0 v1 v2 v3 v4)), .val (.int ((4 : Int32) + (1 : Int32))), .unset, .unset]) rfl ?_
    show Steps p.tables e below (T632.setTop (mkF m 39 #[.val (.ref a), .val (.ref b567), .val (.int (own_nf5 v0 v1 v2 v3 v4)), .val (.int ((4 : Int32) + (1 : Int32))), .unset, .unset] [])) _
    rw [show ((4 : Int32) + (1 : Int32)) = (5 : Int32) from (by decide : ((4 : Int32) + (1 : Int32)) = (5 : Int32))]
    show Steps p.tables e below (T632.setTop (mkF m 39 #[.val (.ref a), .val (.ref b567), .val (.int (own_nf5 v0 v1 v2 v3 v4)), .val (.int (5 : Int32)), .unset, .unset] [])) _
    refine XS.goto X632.here hx rfl (pc0 := 39) (pc' := 11) rfl (hb hby d3_39) (by decide) (by decide) ?_
    show Steps p.tables e below (T632.setTop (mkF m 11 #[.val (.ref a), .val (.ref b567), .val (.int (own_nf5 v0 v1 v2 v3 v4)), .val (.int (5 : Int32)), .unset, .unset] [])) _
    refine XS.iloadN X632.here hx rfl (hb hby d3_11) rfl ?_
    show Steps p.tables e below (T632.setTop (mkF m 12 #[.val (.ref a), .val (.ref b567), .val (.int (own_nf5 v0 v1 v2 v3 v4)), .val (.int (5 : Int32)), .unset, .unset] [(.int (5 : Int32))])) _
    refine XS.aloadN X632.here hx rfl (hb hby d3_12) rfl rfl ?_
    show Steps p.tables e below (T632.setTop (mkF m 13 #[.val (.ref a), .val (.ref b567), .val (.int (own_nf5 v0 v1 v2 v3 v4)), .val (.int (5 : Int32)), .unset, .unset] [(.ref a), (.int (5 : Int32))])) _
    exact kq)
  obtain ⟨T643, X643, e643, st643⟩ := getF X632 hx hZ hown (host := "") (Or.inl (hw _ (List.mem_of_getElem? (i := 28) rfl))) Via.refl e632 f570 (g := (mkF m 13 #[.val (.ref a), .val (.ref b567), .val (.int (own_nf5 v0 v1 v2 v3 v4)), .val (.int (5 : Int32)), .unset, .unset] [(.ref a), (.int (5 : Int32))])) rfl rfl (hb hby d3_13)
  have G644 : Go p e below A0 (T643.setTop (mkF m 16 #[.val (.ref a), .val (.ref b567), .val (.int (own_nf5 v0 v1 v2 v3 v4)), .val (.int (5 : Int32)), .unset, .unset] [(.int (5 : Int32)), (.int (5 : Int32))])) := fun tq kq => G642 tq (st643 _ kq)
  have G645 : Go p e below A0 (T643.setTop (mkF m 53 #[.val (.ref a), .val (.ref b567), .val (.int (own_nf5 v0 v1 v2 v3 v4)), .val (.int (0 : Int32)), .val (.int (own_nf5 v0 v1 v2 v3 v4)), .val (.int (0 : Int32))] [(.ref a), (.int (0 : Int32))])) := fun tq kq => G644 tq (by
    refine XS.icmpYes X643.here hx rfl (pc0 := 16) (pc' := 42) rfl (hb hby d3_16) rfl (by decide) (by decide) (by decide) ?_
    show Steps p.tables e below (T643.setTop (mkF m 42 #[.val (.ref a), .val (.ref b567), .val (.int (own_nf5 v0 v1 v2 v3 v4)), .val (.int (5 : Int32)), .unset, .unset] [])) _
    refine XS.iconst X643.here hx rfl (hb hby d3_42) ?_
    show Steps p.tables e below (T643.setTop (mkF m 43 #[.val (.ref a), .val (.ref b567), .val (.int (own_nf5 v0 v1 v2 v3 v4)), .val (.int (5 : Int32)), .unset, .unset] [(.int (0 : Int32))])) _
    refine XS.istoreN X643.here hx rfl (hb hby d3_43) rfl (l' := #[.val (.ref a), .val (.ref b567), .val (.int (own_nf5 v0 v1 v2 v3 v4)), .val (.int (0 : Int32)), .unset, .unset]) rfl ?_
    show Steps p.tables e below (T643.setTop (mkF m 44 #[.val (.ref a), .val (.ref b567), .val (.int (own_nf5 v0 v1 v2 v3 v4)), .val (.int (0 : Int32)), .unset, .unset] [])) _
    refine XS.iloadN X643.here hx rfl (hb hby d3_44) rfl ?_
    show Steps p.tables e below (T643.setTop (mkF m 45 #[.val (.ref a), .val (.ref b567), .val (.int (own_nf5 v0 v1 v2 v3 v4)), .val (.int (0 : Int32)), .unset, .unset] [(.int (own_nf5 v0 v1 v2 v3 v4))])) _
    refine XS.istore X643.here hx rfl (hb hby d3_45) rfl (l' := #[.val (.ref a), .val (.ref b567), .val (.int (own_nf5 v0 v1 v2 v3 v4)), .val (.int (0 : Int32)), .val (.int (own_nf5 v0 v1 v2 v3 v4)), .unset]) rfl ?_
    show Steps p.tables e below (T643.setTop (mkF m 47 #[.val (.ref a), .val (.ref b567), .val (.int (own_nf5 v0 v1 v2 v3 v4)), .val (.int (0 : Int32)), .val (.int (own_nf5 v0 v1 v2 v3 v4)), .unset] [])) _
    refine XS.iconst X643.here hx rfl (hb hby d3_47) ?_
    show Steps p.tables e below (T643.setTop (mkF m 48 #[.val (.ref a), .val (.ref b567), .val (.int (own_nf5 v0 v1 v2 v3 v4)), .val (.int (0 : Int32)), .val (.int (own_nf5 v0 v1 v2 v3 v4)), .unset] [(.int (0 : Int32))])) _
    refine XS.istore X643.here hx rfl (hb hby d3_48) rfl (l' := #[.val (.ref a), .val (.ref b567), .val (.int (own_nf5 v0 v1 v2 v3 v4)), .val (.int (0 : Int32)), .val (.int (own_nf5 v0 v1 v2 v3 v4)), .val (.int (0 : Int32))]) rfl ?_
    show Steps p.tables e below (T643.setTop (mkF m 50 #[.val (.ref a), .val (.ref b567), .val (.int (own_nf5 v0 v1 v2 v3 v4)), .val (.int (0 : Int32)), .val (.int (own_nf5 v0 v1 v2 v3 v4)), .val (.int (0 : Int32))] [])) _
    refine XS.iload X643.here hx rfl (hb hby d3_50) rfl ?_
    show Steps p.tables e below (T643.setTop (mkF m 52 #[.val (.ref a), .val (.ref b567), .val (.int (own_nf5 v0 v1 v2 v3 v4)), .val (.int (0 : Int32)), .val (.int (own_nf5 v0 v1 v2 v3 v4)), .val (.int (0 : Int32))] [(.int (0 : Int32))])) _
    refine XS.aloadN X643.here hx rfl (hb hby d3_52) rfl rfl ?_
    show Steps p.tables e below (T643.setTop (mkF m 53 #[.val (.ref a), .val (.ref b567), .val (.int (own_nf5 v0 v1 v2 v3 v4)), .val (.int (0 : Int32)), .val (.int (own_nf5 v0 v1 v2 v3 v4)), .val (.int (0 : Int32))] [(.ref a), (.int (0 : Int32))])) _
    exact kq)
  obtain ⟨T646, X646, e646, st646⟩ := getF X643 hx hZ hown (host := "") (Or.inl (hw _ (List.mem_of_getElem? (i := 28) rfl))) Via.refl e643 f570 (g := (mkF m 53 #[.val (.ref a), .val (.ref b567), .val (.int (own_nf5 v0 v1 v2 v3 v4)), .val (.int (0 : Int32)), .val (.int (own_nf5 v0 v1 v2 v3 v4)), .val (.int (0 : Int32))] [(.ref a), (.int (0 : Int32))])) rfl rfl (hb hby d3_53)
  have G647 : Go p e below A0 (T646.setTop (mkF m 56 #[.val (.ref a), .val (.ref b567), .val (.int (own_nf5 v0 v1 v2 v3 v4)), .val (.int (0 : Int32)), .val (.int (own_nf5 v0 v1 v2 v3 v4)), .val (.int (0 : Int32))] [(.int (5 : Int32)), (.int (0 : Int32))])) := fun tq kq => G645 tq (st646 _ kq)
  have G648 : Go p e below A0 (T646.setTop (mkF m 61 #[.val (.ref a), .val (.ref b567), .val (.int (own_nf5 v0 v1 v2 v3 v4)), .val (.int (0 : Int32)), .val (.int (own_nf5 v0 v1 v2 v3 v4)), .val (.int (0 : Int32))] [(.ref a), (.ref b567)])) := fun tq kq => G647 tq (by
    refine XS.icmpNo X646.here hx rfl (hb hby d3_56) rfl (by decide) ?_
    show Steps p.tables e below (T646.setTop (mkF m 59 #[.val (.ref a), .val (.ref b567), .val (.int (own_nf5 v0 v1 v2 v3 v4)), .val (.int (0 : Int32)), .val (.int (own_nf5 v0 v1 v2 v3 v4)), .val (.int (0 : Int32))] [])) _
    refine XS.aloadN X646.here hx rfl (hb hby d3_59) rfl rfl ?_
    show Steps p.tables e below (T646.setTop (mkF m 60 #[.val (.ref a), .val (.ref b567), .val (.int (own_nf5 v0 v1 v2 v3 v4)), .val (.int (0 : Int32)), .val (.int (own_nf5 v0 v1 v2 v3 v4)), .val (.int (0 : Int32))] [(.ref b567)])) _
    refine XS.aloadN X646.here hx rfl (hb hby d3_60) rfl rfl ?_
    show Steps p.tables e below (T646.setTop (mkF m 61 #[.val (.ref a), .val (.ref b567), .val (.int (own_nf5 v0 v1 v2 v3 v4)), .val (.int (0 : Int32)), .val (.int (own_nf5 v0 v1 v2 v3 v4)), .val (.int (0 : Int32))] [(.ref a), (.ref b567)])) _
    exact kq)
  obtain ⟨T649, X649, e649, st649⟩ := getF X646 hx hZ hown (host := "") (Or.inl (hw _ (List.mem_of_getElem? (i := 19) rfl))) Via.refl e646 f574 (g := (mkF m 61 #[.val (.ref a), .val (.ref b567), .val (.int (own_nf5 v0 v1 v2 v3 v4)), .val (.int (0 : Int32)), .val (.int (own_nf5 v0 v1 v2 v3 v4)), .val (.int (0 : Int32))] [(.ref a), (.ref b567)])) rfl rfl (hb hby d3_61)
  have G650 : Go p e below A0 (T649.setTop (mkF m 64 #[.val (.ref a), .val (.ref b567), .val (.int (own_nf5 v0 v1 v2 v3 v4)), .val (.int (0 : Int32)), .val (.int (own_nf5 v0 v1 v2 v3 v4)), .val (.int (0 : Int32))] [(.ref b), (.ref b567)])) := fun tq kq => G648 tq (st649 _ kq)
  have G651 : Go p e below A0 (T649.setTop (mkF m 66 #[.val (.ref a), .val (.ref b567), .val (.int (own_nf5 v0 v1 v2 v3 v4)), .val (.int (0 : Int32)), .val (.int (own_nf5 v0 v1 v2 v3 v4)), .val (.int (0 : Int32))] [(.int (0 : Int32)), (.ref b), (.ref b567)])) := fun tq kq => G650 tq (by
    refine XS.iload X649.here hx rfl (hb hby d3_64) rfl ?_
    show Steps p.tables e below (T649.setTop (mkF m 66 #[.val (.ref a), .val (.ref b567), .val (.int (own_nf5 v0 v1 v2 v3 v4)), .val (.int (0 : Int32)), .val (.int (own_nf5 v0 v1 v2 v3 v4)), .val (.int (0 : Int32))] [(.int (0 : Int32)), (.ref b), (.ref b567)])) _
    exact kq)
  obtain ⟨cl652, Ar652, q652, S652, M652, H652, Gf652⟩ := id f578
  have hi653 : ¬ ((0 : Int32) < 0 ∨ cl652.slots.size ≤ ((0 : Int32)).toNatClampNeg) := (inb_of S652 ⟨by decide, by decide⟩)
  have G654 : Go p e below A0 (T649.setTop (mkF m 67 #[.val (.ref a), .val (.ref b567), .val (.int (own_nf5 v0 v1 v2 v3 v4)), .val (.int (0 : Int32)), .val (.int (own_nf5 v0 v1 v2 v3 v4)), .val (.int (0 : Int32))] [(.int v0), (.ref b567)])) := fun tq kq => G651 tq (by
    refine X649.baloadBooleans hx (j := (0 : Int32)) (v := (.int v0)) (by rw [e649]; exact Ar652.1) (State.isArrayOf_alike hZ.alike Ar652.2.1) Ar652.2.2 hi653 (H652.at hi653 rfl) (g := (mkF m 66 #[.val (.ref a), .val (.ref b567), .val (.int (own_nf5 v0 v1 v2 v3 v4)), .val (.int (0 : Int32)), .val (.int (own_nf5 v0 v1 v2 v3 v4)), .val (.int (0 : Int32))] [(.int (0 : Int32)), (.ref b), (.ref b567)])) rfl rfl (hb hby d3_66) _ ?_
    show Steps p.tables e below (T649.setTop (mkF m 67 #[.val (.ref a), .val (.ref b567), .val (.int (own_nf5 v0 v1 v2 v3 v4)), .val (.int (0 : Int32)), .val (.int (own_nf5 v0 v1 v2 v3 v4)), .val (.int (0 : Int32))] [(.int v0), (.ref b567)])) _
    exact kq)
  obtain ⟨x0, y0, z0, hG655, G655⟩ : ∃ (x0 : Int32) (y0 : Int32) (z0 : Int32), (x0 = (own_ix5_0 v0 v1 v2 v3 v4) ∧ y0 = (own_nf1 v0) ∧ z0 = (own_nt5_1 v0 v1 v2 v3 v4)) ∧ Go p e below A0 (T649.setTop (mkF m 82 #[.val (.ref a), .val (.ref b567), .val (.int (own_nf5 v0 v1 v2 v3 v4)), .val (.int y0), .val (.int z0), .val (.int (0 : Int32))] [(.int x0), (.ref b567)])) := by
    by_cases hc656 : v0 = (0 : Int32)
    · have G657 : Go p e below A0 (T649.setTop (mkF m 82 #[.val (.ref a), .val (.ref b567), .val (.int (own_nf5 v0 v1 v2 v3 v4)), .val (.int (1 : Int32)), .val (.int (own_nf5 v0 v1 v2 v3 v4)), .val (.int (0 : Int32))] [(.int (0 : Int32)), (.ref b567)])) := fun tq kq => G654 tq (by
        refine XS.ifYes X649.here hx rfl (pc0 := 67) (pc' := 78) rfl (hb hby d3_67) rfl ((if0 _ _).trans (teq hc656).1) (by decide) (by decide) ?_
        show Steps p.tables e below (T649.setTop (mkF m 78 #[.val (.ref a), .val (.ref b567), .val (.int (own_nf5 v0 v1 v2 v3 v4)), .val (.int (0 : Int32)), .val (.int (own_nf5 v0 v1 v2 v3 v4)), .val (.int (0 : Int32))] [(.ref b567)])) _
        refine XS.iloadN X649.here hx rfl (hb hby d3_78) rfl ?_
        show Steps p.tables e below (T649.setTop (mkF m 79 #[.val (.ref a), .val (.ref b567), .val (.int (own_nf5 v0 v1 v2 v3 v4)), .val (.int (0 : Int32)), .val (.int (own_nf5 v0 v1 v2 v3 v4)), .val (.int (0 : Int32))] [(.int (0 : Int32)), (.ref b567)])) _
        refine XS.iinc X649.here hx rfl (hb hby d3_79) rfl (l' := #[.val (.ref a), .val (.ref b567), .val (.int (own_nf5 v0 v1 v2 v3 v4)), .val (.int ((0 : Int32) + (1 : Int32))), .val (.int (own_nf5 v0 v1 v2 v3 v4)), .val (.int (0 : Int32))]) rfl ?_
        show Steps p.tables e below (T649.setTop (mkF m 82 #[.val (.ref a), .val (.ref b567), .val (.int (own_nf5 v0 v1 v2 v3 v4)), .val (.int ((0 : Int32) + (1 : Int32))), .val (.int (own_nf5 v0 v1 v2 v3 v4)), .val (.int (0 : Int32))] [(.int (0 : Int32)), (.ref b567)])) _
        rw [show ((0 : Int32) + (1 : Int32)) = (1 : Int32) from (by decide : ((0 : Int32) + (1 : Int32)) = (1 : Int32))]
        show Steps p.tables e below (T649.setTop (mkF m 82 #[.val (.ref a), .val (.ref b567), .val (.int (own_nf5 v0 v1 v2 v3 v4)), .val (.int (1 : Int32)), .val (.int (own_nf5 v0 v1 v2 v3 v4)), .val (.int (0 : Int32))] [(.int (0 : Int32)), (.ref b567)])) _
        exact kq)
      exact ⟨(0 : Int32), (1 : Int32), (own_nf5 v0 v1 v2 v3 v4), (by exact ⟨(if_pos hc656).symm, (congrArg (fun q => (0 : Int32) + q) (own_bt hc656)).symm, ((congrArg (fun q => (own_nf5 v0 v1 v2 v3 v4) + q) (own_b0 (fun q => q hc656))).trans (Int32.add_zero _)).symm⟩), G657⟩
    · have G658 : Go p e below A0 (T649.setTop (mkF m 82 #[.val (.ref a), .val (.ref b567), .val (.int (own_nf5 v0 v1 v2 v3 v4)), .val (.int (0 : Int32)), .val (.int ((own_nf5 v0 v1 v2 v3 v4) + (1 : Int32))), .val (.int (0 : Int32))] [(.int (own_nf5 v0 v1 v2 v3 v4)), (.ref b567)])) := fun tq kq => G654 tq (by
        refine XS.ifNo X649.here hx rfl (hb hby d3_67) rfl ((if0 _ _).trans (feq hc656).1) ?_
        show Steps p.tables e below (T649.setTop (mkF m 70 #[.val (.ref a), .val (.ref b567), .val (.int (own_nf5 v0 v1 v2 v3 v4)), .val (.int (0 : Int32)), .val (.int (own_nf5 v0 v1 v2 v3 v4)), .val (.int (0 : Int32))] [(.ref b567)])) _
        refine XS.iload X649.here hx rfl (hb hby d3_70) rfl ?_
        show Steps p.tables e below (T649.setTop (mkF m 72 #[.val (.ref a), .val (.ref b567), .val (.int (own_nf5 v0 v1 v2 v3 v4)), .val (.int (0 : Int32)), .val (.int (own_nf5 v0 v1 v2 v3 v4)), .val (.int (0 : Int32))] [(.int (own_nf5 v0 v1 v2 v3 v4)), (.ref b567)])) _
        refine XS.iinc X649.here hx rfl (hb hby d3_72) rfl (l' := #[.val (.ref a), .val (.ref b567), .val (.int (own_nf5 v0 v1 v2 v3 v4)), .val (.int (0 : Int32)), .val (.int ((own_nf5 v0 v1 v2 v3 v4) + (1 : Int32))), .val (.int (0 : Int32))]) rfl ?_
        show Steps p.tables e below (T649.setTop (mkF m 75 #[.val (.ref a), .val (.ref b567), .val (.int (own_nf5 v0 v1 v2 v3 v4)), .val (.int (0 : Int32)), .val (.int ((own_nf5 v0 v1 v2 v3 v4) + (1 : Int32))), .val (.int (0 : Int32))] [(.int (own_nf5 v0 v1 v2 v3 v4)), (.ref b567)])) _
        refine XS.goto X649.here hx rfl (pc0 := 75) (pc' := 82) rfl (hb hby d3_75) (by decide) (by decide) ?_
        show Steps p.tables e below (T649.setTop (mkF m 82 #[.val (.ref a), .val (.ref b567), .val (.int (own_nf5 v0 v1 v2 v3 v4)), .val (.int (0 : Int32)), .val (.int ((own_nf5 v0 v1 v2 v3 v4) + (1 : Int32))), .val (.int (0 : Int32))] [(.int (own_nf5 v0 v1 v2 v3 v4)), (.ref b567)])) _
        exact kq)
      exact ⟨(own_nf5 v0 v1 v2 v3 v4), (0 : Int32), ((own_nf5 v0 v1 v2 v3 v4) + (1 : Int32)), (by exact ⟨(if_neg hc656).symm, ((congrArg (fun q => (0 : Int32) + q) (own_b0 hc656)).trans (Int32.add_zero _)).symm, (congrArg (fun q => (own_nf5 v0 v1 v2 v3 v4) + q) (own_bt hc656)).symm⟩), G658⟩
  obtain ⟨rfl, rfl, rfl⟩ := hG655
  have G659 : Go p e below A0 (T649.setTop (mkF m 84 #[.val (.ref a), .val (.ref b567), .val (.int (own_nf5 v0 v1 v2 v3 v4)), .val (.int (own_nf1 v0)), .val (.int (own_nt5_1 v0 v1 v2 v3 v4)), .val (.int (0 : Int32))] [(.int (0 : Int32)), (.int (own_ix5_0 v0 v1 v2 v3 v4)), (.ref b567)])) := fun tq kq => G655 tq (by
    refine XS.iload X649.here hx rfl (hb hby d3_82) rfl ?_
    show Steps p.tables e below (T649.setTop (mkF m 84 #[.val (.ref a), .val (.ref b567), .val (.int (own_nf5 v0 v1 v2 v3 v4)), .val (.int (own_nf1 v0)), .val (.int (own_nt5_1 v0 v1 v2 v3 v4)), .val (.int (0 : Int32))] [(.int (0 : Int32)), (.int (own_ix5_0 v0 v1 v2 v3 v4)), (.ref b567)])) _
    exact kq)
  obtain ⟨cl660, Ar660, q660, S660, M660, H660⟩ := id Af0
  have hi661 : ¬ ((own_ix5_0 v0 v1 v2 v3 v4) < 0 ∨ cl660.slots.size ≤ ((own_ix5_0 v0 v1 v2 v3 v4)).toNatClampNeg) := (inb_of S660 (own_idx_5_0 v0 v1 v2 v3 v4 hb0 hb1 hb2 hb3 hb4))
  obtain ⟨T662, h662, X662, e662, W662, st662⟩ := stI X649 hx hZ e649 Ar660 (j := (own_ix5_0 v0 v1 v2 v3 v4)) hi661 (g := (mkF m 84 #[.val (.ref a), .val (.ref b567), .val (.int (own_nf5 v0 v1 v2 v3 v4)), .val (.int (own_nf1 v0)), .val (.int (own_nt5_1 v0 v1 v2 v3 v4)), .val (.int (0 : Int32))] [(.int (0 : Int32)), (.int (own_ix5_0 v0 v1 v2 v3 v4)), (.ref b567)])) rfl rfl (hb hby d3_84)
  have N662 := Fr.snoc X662 N0 g_b567
  have V662 : Af Z h662 b567 k567 .int (5 : Int32) (fun i => if i = ((own_ix5_0 v0 v1 v2 v3 v4)).toNatClampNeg then (.int (0 : Int32)) else ((own_g5_0 v0 v1 v2 v3 v4)) i) := Af.set Ar660 q660 S660 M660 H660 W662 hi661
  have V662' : Af Z h662 b567 k567 .int (5 : Int32) (own_g5_1 v0 v1 v2 v3 v4) := V662.fn (fun _ _ => rfl)
  have G663 : Go p e below A0 (T662.setTop (mkF m 85 #[.val (.ref a), .val (.ref b567), .val (.int (own_nf5 v0 v1 v2 v3 v4)), .val (.int (own_nf1 v0)), .val (.int (own_nt5_1 v0 v1 v2 v3 v4)), .val (.int (0 : Int32))] [])) := fun tq kq => G659 tq (st662 _ kq)
  have G664 : Go p e below A0 (T662.setTop (mkF m 53 #[.val (.ref a), .val (.ref b567), .val (.int (own_nf5 v0 v1 v2 v3 v4)), .val (.int (own_nf1 v0)), .val (.int (own_nt5_1 v0 v1 v2 v3 v4)), .val (.int (1 : Int32))] [(.ref a), (.int (1 : Int32))])) := fun tq kq => G663 tq (by
    refine XS.iinc X662.here hx rfl (hb hby d3_85) rfl (l' := #[.val (.ref a), .val (.ref b567), .val (.int (own_nf5 v0 v1 v2 v3 v4)), .val (.int (own_nf1 v0)), .val (.int (own_nt5_1 v0 v1 v2 v3 v4)), .val (.int ((0 : Int32) + (1 : Int32)))]) rfl ?_
    show Steps p.tables e below (T662.setTop (mkF m 88 #[.val (.ref a), .val (.ref b567), .val (.int (own_nf5 v0 v1 v2 v3 v4)), .val (.int (own_nf1 v0)), .val (.int (own_nt5_1 v0 v1 v2 v3 v4)), .val (.int ((0 : Int32) + (1 : Int32)))] [])) _
    rw [show ((0 : Int32) + (1 : Int32)) = (1 : Int32) from (by decide : ((0 : Int32) + (1 : Int32)) = (1 : Int32))]
    show Steps p.tables e below (T662.setTop (mkF m 88 #[.val (.ref a), .val (.ref b567), .val (.int (own_nf5 v0 v1 v2 v3 v4)), .val (.int (own_nf1 v0)), .val (.int (own_nt5_1 v0 v1 v2 v3 v4)), .val (.int (1 : Int32))] [])) _
    refine XS.goto X662.here hx rfl (pc0 := 88) (pc' := 50) rfl (hb hby d3_88) (by decide) (by decide) ?_
    show Steps p.tables e below (T662.setTop (mkF m 50 #[.val (.ref a), .val (.ref b567), .val (.int (own_nf5 v0 v1 v2 v3 v4)), .val (.int (own_nf1 v0)), .val (.int (own_nt5_1 v0 v1 v2 v3 v4)), .val (.int (1 : Int32))] [])) _
    refine XS.iload X662.here hx rfl (hb hby d3_50) rfl ?_
    show Steps p.tables e below (T662.setTop (mkF m 52 #[.val (.ref a), .val (.ref b567), .val (.int (own_nf5 v0 v1 v2 v3 v4)), .val (.int (own_nf1 v0)), .val (.int (own_nt5_1 v0 v1 v2 v3 v4)), .val (.int (1 : Int32))] [(.int (1 : Int32))])) _
    refine XS.aloadN X662.here hx rfl (hb hby d3_52) rfl rfl ?_
    show Steps p.tables e below (T662.setTop (mkF m 53 #[.val (.ref a), .val (.ref b567), .val (.int (own_nf5 v0 v1 v2 v3 v4)), .val (.int (own_nf1 v0)), .val (.int (own_nt5_1 v0 v1 v2 v3 v4)), .val (.int (1 : Int32))] [(.ref a), (.int (1 : Int32))])) _
    exact kq)
  have f665 := (f570.other W662 (Or.inl ne_a_b567))
  obtain ⟨T666, X666, e666, st666⟩ := getF X662 hx hZ hown (host := "") (Or.inl (hw _ (List.mem_of_getElem? (i := 28) rfl))) Via.refl e662 f665 (g := (mkF m 53 #[.val (.ref a), .val (.ref b567), .val (.int (own_nf5 v0 v1 v2 v3 v4)), .val (.int (own_nf1 v0)), .val (.int (own_nt5_1 v0 v1 v2 v3 v4)), .val (.int (1 : Int32))] [(.ref a), (.int (1 : Int32))])) rfl rfl (hb hby d3_53)
  have G667 : Go p e below A0 (T666.setTop (mkF m 56 #[.val (.ref a), .val (.ref b567), .val (.int (own_nf5 v0 v1 v2 v3 v4)), .val (.int (own_nf1 v0)), .val (.int (own_nt5_1 v0 v1 v2 v3 v4)), .val (.int (1 : Int32))] [(.int (5 : Int32)), (.int (1 : Int32))])) := fun tq kq => G664 tq (st666 _ kq)
  have G668 : Go p e below A0 (T666.setTop (mkF m 61 #[.val (.ref a), .val (.ref b567), .val (.int (own_nf5 v0 v1 v2 v3 v4)), .val (.int (own_nf1 v0)), .val (.int (own_nt5_1 v0 v1 v2 v3 v4)), .val (.int (1 : Int32))] [(.ref a), (.ref b567)])) := fun tq kq => G667 tq (by
    refine XS.icmpNo X666.here hx rfl (hb hby d3_56) rfl (by decide) ?_
    show Steps p.tables e below (T666.setTop (mkF m 59 #[.val (.ref a), .val (.ref b567), .val (.int (own_nf5 v0 v1 v2 v3 v4)), .val (.int (own_nf1 v0)), .val (.int (own_nt5_1 v0 v1 v2 v3 v4)), .val (.int (1 : Int32))] [])) _
    refine XS.aloadN X666.here hx rfl (hb hby d3_59) rfl rfl ?_
    show Steps p.tables e below (T666.setTop (mkF m 60 #[.val (.ref a), .val (.ref b567), .val (.int (own_nf5 v0 v1 v2 v3 v4)), .val (.int (own_nf1 v0)), .val (.int (own_nt5_1 v0 v1 v2 v3 v4)), .val (.int (1 : Int32))] [(.ref b567)])) _
    refine XS.aloadN X666.here hx rfl (hb hby d3_60) rfl rfl ?_
    show Steps p.tables e below (T666.setTop (mkF m 61 #[.val (.ref a), .val (.ref b567), .val (.int (own_nf5 v0 v1 v2 v3 v4)), .val (.int (own_nf1 v0)), .val (.int (own_nt5_1 v0 v1 v2 v3 v4)), .val (.int (1 : Int32))] [(.ref a), (.ref b567)])) _
    exact kq)
  have f669 := (f574.other W662 (Or.inl ne_a_b567))
  obtain ⟨T670, X670, e670, st670⟩ := getF X666 hx hZ hown (host := "") (Or.inl (hw _ (List.mem_of_getElem? (i := 19) rfl))) Via.refl e666 f669 (g := (mkF m 61 #[.val (.ref a), .val (.ref b567), .val (.int (own_nf5 v0 v1 v2 v3 v4)), .val (.int (own_nf1 v0)), .val (.int (own_nt5_1 v0 v1 v2 v3 v4)), .val (.int (1 : Int32))] [(.ref a), (.ref b567)])) rfl rfl (hb hby d3_61)
  have G671 : Go p e below A0 (T670.setTop (mkF m 64 #[.val (.ref a), .val (.ref b567), .val (.int (own_nf5 v0 v1 v2 v3 v4)), .val (.int (own_nf1 v0)), .val (.int (own_nt5_1 v0 v1 v2 v3 v4)), .val (.int (1 : Int32))] [(.ref b), (.ref b567)])) := fun tq kq => G668 tq (st670 _ kq)
  have G672 : Go p e below A0 (T670.setTop (mkF m 66 #[.val (.ref a), .val (.ref b567), .val (.int (own_nf5 v0 v1 v2 v3 v4)), .val (.int (own_nf1 v0)), .val (.int (own_nt5_1 v0 v1 v2 v3 v4)), .val (.int (1 : Int32))] [(.int (1 : Int32)), (.ref b), (.ref b567)])) := fun tq kq => G671 tq (by
    refine XS.iload X670.here hx rfl (hb hby d3_64) rfl ?_
    show Steps p.tables e below (T670.setTop (mkF m 66 #[.val (.ref a), .val (.ref b567), .val (.int (own_nf5 v0 v1 v2 v3 v4)), .val (.int (own_nf1 v0)), .val (.int (own_nt5_1 v0 v1 v2 v3 v4)), .val (.int (1 : Int32))] [(.int (1 : Int32)), (.ref b), (.ref b567)])) _
    exact kq)
  have f673 := (f578.other W662 ne_b_b567)
  obtain ⟨cl674, Ar674, q674, S674, M674, H674, Gf674⟩ := id f673
  have hi675 : ¬ ((1 : Int32) < 0 ∨ cl674.slots.size ≤ ((1 : Int32)).toNatClampNeg) := (inb_of S674 ⟨by decide, by decide⟩)
  have G676 : Go p e below A0 (T670.setTop (mkF m 67 #[.val (.ref a), .val (.ref b567), .val (.int (own_nf5 v0 v1 v2 v3 v4)), .val (.int (own_nf1 v0)), .val (.int (own_nt5_1 v0 v1 v2 v3 v4)), .val (.int (1 : Int32))] [(.int v1), (.ref b567)])) := fun tq kq => G672 tq (by
    refine X670.baloadBooleans hx (j := (1 : Int32)) (v := (.int v1)) (by rw [e670]; exact Ar674.1) (State.isArrayOf_alike hZ.alike Ar674.2.1) Ar674.2.2 hi675 (H674.at hi675 rfl) (g := (mkF m 66 #[.val (.ref a), .val (.ref b567), .val (.int (own_nf5 v0 v1 v2 v3 v4)), .val (.int (own_nf1 v0)), .val (.int (own_nt5_1 v0 v1 v2 v3 v4)), .val (.int (1 : Int32))] [(.int (1 : Int32)), (.ref b), (.ref b567)])) rfl rfl (hb hby d3_66) _ ?_
    show Steps p.tables e below (T670.setTop (mkF m 67 #[.val (.ref a), .val (.ref b567), .val (.int (own_nf5 v0 v1 v2 v3 v4)), .val (.int (own_nf1 v0)), .val (.int (own_nt5_1 v0 v1 v2 v3 v4)), .val (.int (1 : Int32))] [(.int v1), (.ref b567)])) _
    exact kq)
  obtain ⟨x1, y1, z1, hG677, G677⟩ : ∃ (x1 : Int32) (y1 : Int32) (z1 : Int32), (x1 = (own_ix5_1 v0 v1 v2 v3 v4) ∧ y1 = (own_nf2 v0 v1) ∧ z1 = (own_nt5_2 v0 v1 v2 v3 v4)) ∧ Go p e below A0 (T670.setTop (mkF m 82 #[.val (.ref a), .val (.ref b567), .val (.int (own_nf5 v0 v1 v2 v3 v4)), .val (.int y1), .val (.int z1), .val (.int (1 : Int32))] [(.int x1), (.ref b567)])) := by
    by_cases hc678 : v1 = (0 : Int32)
    · have G679 : Go p e below A0 (T670.setTop (mkF m 82 #[.val (.ref a), .val (.ref b567), .val (.int (own_nf5 v0 v1 v2 v3 v4)), .val (.int ((own_nf1 v0) + (1 : Int32))), .val (.int (own_nt5_1 v0 v1 v2 v3 v4)), .val (.int (1 : Int32))] [(.int (own_nf1 v0)), (.ref b567)])) := fun tq kq => G676 tq (by
        refine XS.ifYes X670.here hx rfl (pc0 := 67) (pc' := 78) rfl (hb hby d3_67) rfl ((if0 _ _).trans (teq hc678).1) (by decide) (by decide) ?_
        show Steps p.tables e below (T670.setTop (mkF m 78 #[.val (.ref a), .val (.ref b567), .val (.int (own_nf5 v0 v1 v2 v3 v4)), .val (.int (own_nf1 v0)), .val (.int (own_nt5_1 v0 v1 v2 v3 v4)), .val (.int (1 : Int32))] [(.ref b567)])) _
        refine XS.iloadN X670.here hx rfl (hb hby d3_78) rfl ?_
        show Steps p.tables e below (T670.setTop (mkF m 79 #[.val (.ref a), .val (.ref b567), .val (.int (own_nf5 v0 v1 v2 v3 v4)), .val (.int (own_nf1 v0)), .val (.int (own_nt5_1 v0 v1 v2 v3 v4)), .val (.int (1 : Int32))] [(.int (own_nf1 v0)), (.ref b567)])) _
        refine XS.iinc X670.here hx rfl (hb hby d3_79) rfl (l' := #[.val (.ref a), .val (.ref b567), .val (.int (own_nf5 v0 v1 v2 v3 v4)), .val (.int ((own_nf1 v0) + (1 : Int32))), .val (.int (own_nt5_1 v0 v1 v2 v3 v4)), .val (.int (1 : Int32))]) rfl ?_
        show Steps p.tables e below (T670.setTop (mkF m 82 #[.val (.ref a), .val (.ref b567), .val (.int (own_nf5 v0 v1 v2 v3 v4)), .val (.int ((own_nf1 v0) + (1 : Int32))), .val (.int (own_nt5_1 v0 v1 v2 v3 v4)), .val (.int (1 : Int32))] [(.int (own_nf1 v0)), (.ref b567)])) _
        exact kq)
      exact ⟨(own_nf1 v0), ((own_nf1 v0) + (1 : Int32)), (own_nt5_1 v0 v1 v2 v3 v4), (by exact ⟨(if_pos hc678).symm, (congrArg (fun q => (own_nf1 v0) + q) (own_bt hc678)).symm, ((congrArg (fun q => (own_nt5_1 v0 v1 v2 v3 v4) + q) (own_b0 (fun q => q hc678))).trans (Int32.add_zero _)).symm⟩), G679⟩
    · have G680 : Go p e below A0 (T670.setTop (mkF m 82 #[.val (.ref a), .val (.ref b567), .val (.int (own_nf5 v0 v1 v2 v3 v4)), .val (.int (own_nf1 v0)), .val (.int ((own_nt5_1 v0 v1 v2 v3 v4) + (1 : Int32))), .val (.int (1 : Int32))] [(.int (own_nt5_1 v0 v1 v2 v3 v4)), (.ref b567)])) := fun tq kq => G676 tq (by
        refine XS.ifNo X670.here hx rfl (hb hby d3_67) rfl ((if0 _ _).trans (feq hc678).1) ?_
        show Steps p.tables e below (T670.setTop (mkF m 70 #[.val (.ref a), .val (.ref b567), .val (.int (own_nf5 v0 v1 v2 v3 v4)), .val (.int (own_nf1 v0)), .val (.int (own_nt5_1 v0 v1 v2 v3 v4)), .val (.int (1 : Int32))] [(.ref b567)])) _
        refine XS.iload X670.here hx rfl (hb hby d3_70) rfl ?_
        show Steps p.tables e below (T670.setTop (mkF m 72 #[.val (.ref a), .val (.ref b567), .val (.int (own_nf5 v0 v1 v2 v3 v4)), .val (.int (own_nf1 v0)), .val (.int (own_nt5_1 v0 v1 v2 v3 v4)), .val (.int (1 : Int32))] [(.int (own_nt5_1 v0 v1 v2 v3 v4)), (.ref b567)])) _
        refine XS.iinc X670.here hx rfl (hb hby d3_72) rfl (l' := #[.val (.ref a), .val (.ref b567), .val (.int (own_nf5 v0 v1 v2 v3 v4)), .val (.int (own_nf1 v0)), .val (.int ((own_nt5_1 v0 v1 v2 v3 v4) + (1 : Int32))), .val (.int (1 : Int32))]) rfl ?_
        show Steps p.tables e below (T670.setTop (mkF m 75 #[.val (.ref a), .val (.ref b567), .val (.int (own_nf5 v0 v1 v2 v3 v4)), .val (.int (own_nf1 v0)), .val (.int ((own_nt5_1 v0 v1 v2 v3 v4) + (1 : Int32))), .val (.int (1 : Int32))] [(.int (own_nt5_1 v0 v1 v2 v3 v4)), (.ref b567)])) _
        refine XS.goto X670.here hx rfl (pc0 := 75) (pc' := 82) rfl (hb hby d3_75) (by decide) (by decide) ?_
        show Steps p.tables e below (T670.setTop (mkF m 82 #[.val (.ref a), .val (.ref b567), .val (.int (own_nf5 v0 v1 v2 v3 v4)), .val (.int (own_nf1 v0)), .val (.int ((own_nt5_1 v0 v1 v2 v3 v4) + (1 : Int32))), .val (.int (1 : Int32))] [(.int (own_nt5_1 v0 v1 v2 v3 v4)), (.ref b567)])) _
        exact kq)
      exact ⟨(own_nt5_1 v0 v1 v2 v3 v4), (own_nf1 v0), ((own_nt5_1 v0 v1 v2 v3 v4) + (1 : Int32)), (by exact ⟨(if_neg hc678).symm, ((congrArg (fun q => (own_nf1 v0) + q) (own_b0 hc678)).trans (Int32.add_zero _)).symm, (congrArg (fun q => (own_nt5_1 v0 v1 v2 v3 v4) + q) (own_bt hc678)).symm⟩), G680⟩
  obtain ⟨rfl, rfl, rfl⟩ := hG677
  have G681 : Go p e below A0 (T670.setTop (mkF m 84 #[.val (.ref a), .val (.ref b567), .val (.int (own_nf5 v0 v1 v2 v3 v4)), .val (.int (own_nf2 v0 v1)), .val (.int (own_nt5_2 v0 v1 v2 v3 v4)), .val (.int (1 : Int32))] [(.int (1 : Int32)), (.int (own_ix5_1 v0 v1 v2 v3 v4)), (.ref b567)])) := fun tq kq => G677 tq (by
    refine XS.iload X670.here hx rfl (hb hby d3_82) rfl ?_
    show Steps p.tables e below (T670.setTop (mkF m 84 #[.val (.ref a), .val (.ref b567), .val (.int (own_nf5 v0 v1 v2 v3 v4)), .val (.int (own_nf2 v0 v1)), .val (.int (own_nt5_2 v0 v1 v2 v3 v4)), .val (.int (1 : Int32))] [(.int (1 : Int32)), (.int (own_ix5_1 v0 v1 v2 v3 v4)), (.ref b567)])) _
    exact kq)
  obtain ⟨cl682, Ar682, q682, S682, M682, H682⟩ := id V662'
  have hi683 : ¬ ((own_ix5_1 v0 v1 v2 v3 v4) < 0 ∨ cl682.slots.size ≤ ((own_ix5_1 v0 v1 v2 v3 v4)).toNatClampNeg) := (inb_of S682 (own_idx_5_1 v0 v1 v2 v3 v4 hb0 hb1 hb2 hb3 hb4))
  obtain ⟨T684, h684, X684, e684, W684, st684⟩ := stI X670 hx hZ e670 Ar682 (j := (own_ix5_1 v0 v1 v2 v3 v4)) hi683 (g := (mkF m 84 #[.val (.ref a), .val (.ref b567), .val (.int (own_nf5 v0 v1 v2 v3 v4)), .val (.int (own_nf2 v0 v1)), .val (.int (own_nt5_2 v0 v1 v2 v3 v4)), .val (.int (1 : Int32))] [(.int (1 : Int32)), (.int (own_ix5_1 v0 v1 v2 v3 v4)), (.ref b567)])) rfl rfl (hb hby d3_84)
  have N684 := Fr.snoc X684 N662 g_b567
  have V684 : Af Z h684 b567 k567 .int (5 : Int32) (fun i => if i = ((own_ix5_1 v0 v1 v2 v3 v4)).toNatClampNeg then (.int (1 : Int32)) else ((own_g5_1 v0 v1 v2 v3 v4)) i) := Af.set Ar682 q682 S682 M682 H682 W684 hi683
  have V684' : Af Z h684 b567 k567 .int (5 : Int32) (own_g5_2 v0 v1 v2 v3 v4) := V684.fn (fun _ _ => rfl)
  have G685 : Go p e below A0 (T684.setTop (mkF m 85 #[.val (.ref a), .val (.ref b567), .val (.int (own_nf5 v0 v1 v2 v3 v4)), .val (.int (own_nf2 v0 v1)), .val (.int (own_nt5_2 v0 v1 v2 v3 v4)), .val (.int (1 : Int32))] [])) := fun tq kq => G681 tq (st684 _ kq)
  have G686 : Go p e below A0 (T684.setTop (mkF m 53 #[.val (.ref a), .val (.ref b567), .val (.int (own_nf5 v0 v1 v2 v3 v4)), .val (.int (own_nf2 v0 v1)), .val (.int (own_nt5_2 v0 v1 v2 v3 v4)), .val (.int (2 : Int32))] [(.ref a), (.int (2 : Int32))])) := fun tq kq => G685 tq (by
    refine XS.iinc X684.here hx rfl (hb hby d3_85) rfl (l' := #[.val (.ref a), .val (.ref b567), .val (.int (own_nf5 v0 v1 v2 v3 v4)), .val (.int (own_nf2 v0 v1)), .val (.int (own_nt5_2 v0 v1 v2 v3 v4)), .val (.int ((1 : Int32) + (1 : Int32)))]) rfl ?_
    show Steps p.tables e below (T684.setTop (mkF m 88 #[.val (.ref a), .val (.ref b567), .val (.int (own_nf5 v0 v1 v2 v3 v4)), .val (.int (own_nf2 v0 v1)), .val (.int (own_nt5_2 v0 v1 v2 v3 v4)), .val (.int ((1 : Int32) + (1 : Int32)))] [])) _
    rw [show ((1 : Int32) + (1 : Int32)) = (2 : Int32) from (by decide : ((1 : Int32) + (1 : Int32)) = (2 : Int32))]
    show Steps p.tables e below (T684.setTop (mkF m 88 #[.val (.ref a), .val (.ref b567), .val (.int (own_nf5 v0 v1 v2 v3 v4)), .val (.int (own_nf2 v0 v1)), .val (.int (own_nt5_2 v0 v1 v2 v3 v4)), .val (.int (2 : Int32))] [])) _
    refine XS.goto X684.here hx rfl (pc0 := 88) (pc' := 50) rfl (hb hby d3_88) (by decide) (by decide) ?_
    show Steps p.tables e below (T684.setTop (mkF m 50 #[.val (.ref a), .val (.ref b567), .val (.int (own_nf5 v0 v1 v2 v3 v4)), .val (.int (own_nf2 v0 v1)), .val (.int (own_nt5_2 v0 v1 v2 v3 v4)), .val (.int (2 : Int32))] [])) _
    refine XS.iload X684.here hx rfl (hb hby d3_50) rfl ?_
    show Steps p.tables e below (T684.setTop (mkF m 52 #[.val (.ref a), .val (.ref b567), .val (.int (own_nf5 v0 v1 v2 v3 v4)), .val (.int (own_nf2 v0 v1)), .val (.int (own_nt5_2 v0 v1 v2 v3 v4)), .val (.int (2 : Int32))] [(.int (2 : Int32))])) _
    refine XS.aloadN X684.here hx rfl (hb hby d3_52) rfl rfl ?_
    show Steps p.tables e below (T684.setTop (mkF m 53 #[.val (.ref a), .val (.ref b567), .val (.int (own_nf5 v0 v1 v2 v3 v4)), .val (.int (own_nf2 v0 v1)), .val (.int (own_nt5_2 v0 v1 v2 v3 v4)), .val (.int (2 : Int32))] [(.ref a), (.int (2 : Int32))])) _
    exact kq)
  have f687 := (f665.other W684 (Or.inl ne_a_b567))
  obtain ⟨T688, X688, e688, st688⟩ := getF X684 hx hZ hown (host := "") (Or.inl (hw _ (List.mem_of_getElem? (i := 28) rfl))) Via.refl e684 f687 (g := (mkF m 53 #[.val (.ref a), .val (.ref b567), .val (.int (own_nf5 v0 v1 v2 v3 v4)), .val (.int (own_nf2 v0 v1)), .val (.int (own_nt5_2 v0 v1 v2 v3 v4)), .val (.int (2 : Int32))] [(.ref a), (.int (2 : Int32))])) rfl rfl (hb hby d3_53)
  have G689 : Go p e below A0 (T688.setTop (mkF m 56 #[.val (.ref a), .val (.ref b567), .val (.int (own_nf5 v0 v1 v2 v3 v4)), .val (.int (own_nf2 v0 v1)), .val (.int (own_nt5_2 v0 v1 v2 v3 v4)), .val (.int (2 : Int32))] [(.int (5 : Int32)), (.int (2 : Int32))])) := fun tq kq => G686 tq (st688 _ kq)
  have G690 : Go p e below A0 (T688.setTop (mkF m 61 #[.val (.ref a), .val (.ref b567), .val (.int (own_nf5 v0 v1 v2 v3 v4)), .val (.int (own_nf2 v0 v1)), .val (.int (own_nt5_2 v0 v1 v2 v3 v4)), .val (.int (2 : Int32))] [(.ref a), (.ref b567)])) := fun tq kq => G689 tq (by
    refine XS.icmpNo X688.here hx rfl (hb hby d3_56) rfl (by decide) ?_
    show Steps p.tables e below (T688.setTop (mkF m 59 #[.val (.ref a), .val (.ref b567), .val (.int (own_nf5 v0 v1 v2 v3 v4)), .val (.int (own_nf2 v0 v1)), .val (.int (own_nt5_2 v0 v1 v2 v3 v4)), .val (.int (2 : Int32))] [])) _
    refine XS.aloadN X688.here hx rfl (hb hby d3_59) rfl rfl ?_
    show Steps p.tables e below (T688.setTop (mkF m 60 #[.val (.ref a), .val (.ref b567), .val (.int (own_nf5 v0 v1 v2 v3 v4)), .val (.int (own_nf2 v0 v1)), .val (.int (own_nt5_2 v0 v1 v2 v3 v4)), .val (.int (2 : Int32))] [(.ref b567)])) _
    refine XS.aloadN X688.here hx rfl (hb hby d3_60) rfl rfl ?_
    show Steps p.tables e below (T688.setTop (mkF m 61 #[.val (.ref a), .val (.ref b567), .val (.int (own_nf5 v0 v1 v2 v3 v4)), .val (.int (own_nf2 v0 v1)), .val (.int (own_nt5_2 v0 v1 v2 v3 v4)), .val (.int (2 : Int32))] [(.ref a), (.ref b567)])) _
    exact kq)
  have f691 := (f669.other W684 (Or.inl ne_a_b567))
  obtain ⟨T692, X692, e692, st692⟩ := getF X688 hx hZ hown (host := "") (Or.inl (hw _ (List.mem_of_getElem? (i := 19) rfl))) Via.refl e688 f691 (g := (mkF m 61 #[.val (.ref a), .val (.ref b567), .val (.int (own_nf5 v0 v1 v2 v3 v4)), .val (.int (own_nf2 v0 v1)), .val (.int (own_nt5_2 v0 v1 v2 v3 v4)), .val (.int (2 : Int32))] [(.ref a), (.ref b567)])) rfl rfl (hb hby d3_61)
  have G693 : Go p e below A0 (T692.setTop (mkF m 64 #[.val (.ref a), .val (.ref b567), .val (.int (own_nf5 v0 v1 v2 v3 v4)), .val (.int (own_nf2 v0 v1)), .val (.int (own_nt5_2 v0 v1 v2 v3 v4)), .val (.int (2 : Int32))] [(.ref b), (.ref b567)])) := fun tq kq => G690 tq (st692 _ kq)
  have G694 : Go p e below A0 (T692.setTop (mkF m 66 #[.val (.ref a), .val (.ref b567), .val (.int (own_nf5 v0 v1 v2 v3 v4)), .val (.int (own_nf2 v0 v1)), .val (.int (own_nt5_2 v0 v1 v2 v3 v4)), .val (.int (2 : Int32))] [(.int (2 : Int32)), (.ref b), (.ref b567)])) := fun tq kq => G693 tq (by
    refine XS.iload X692.here hx rfl (hb hby d3_64) rfl ?_
    show Steps p.tables e below (T692.setTop (mkF m 66 #[.val (.ref a), .val (.ref b567), .val (.int (own_nf5 v0 v1 v2 v3 v4)), .val (.int (own_nf2 v0 v1)), .val (.int (own_nt5_2 v0 v1 v2 v3 v4)), .val (.int (2 : Int32))] [(.int (2 : Int32)), (.ref b), (.ref b567)])) _
    exact kq)
  have f695 := (f673.other W684 ne_b_b567)
  obtain ⟨cl696, Ar696, q696, S696, M696, H696, Gf696⟩ := id f695
  have hi697 : ¬ ((2 : Int32) < 0 ∨ cl696.slots.size ≤ ((2 : Int32)).toNatClampNeg) := (inb_of S696 ⟨by decide, by decide⟩)
  have G698 : Go p e below A0 (T692.setTop (mkF m 67 #[.val (.ref a), .val (.ref b567), .val (.int (own_nf5 v0 v1 v2 v3 v4)), .val (.int (own_nf2 v0 v1)), .val (.int (own_nt5_2 v0 v1 v2 v3 v4)), .val (.int (2 : Int32))] [(.int v2), (.ref b567)])) := fun tq kq => G694 tq (by
    refine X692.baloadBooleans hx (j := (2 : Int32)) (v := (.int v2)) (by rw [e692]; exact Ar696.1) (State.isArrayOf_alike hZ.alike Ar696.2.1) Ar696.2.2 hi697 (H696.at hi697 rfl) (g := (mkF m 66 #[.val (.ref a), .val (.ref b567), .val (.int (own_nf5 v0 v1 v2 v3 v4)), .val (.int (own_nf2 v0 v1)), .val (.int (own_nt5_2 v0 v1 v2 v3 v4)), .val (.int (2 : Int32))] [(.int (2 : Int32)), (.ref b), (.ref b567)])) rfl rfl (hb hby d3_66) _ ?_
    show Steps p.tables e below (T692.setTop (mkF m 67 #[.val (.ref a), .val (.ref b567), .val (.int (own_nf5 v0 v1 v2 v3 v4)), .val (.int (own_nf2 v0 v1)), .val (.int (own_nt5_2 v0 v1 v2 v3 v4)), .val (.int (2 : Int32))] [(.int v2), (.ref b567)])) _
    exact kq)
  obtain ⟨x2, y2, z2, hG699, G699⟩ : ∃ (x2 : Int32) (y2 : Int32) (z2 : Int32), (x2 = (own_ix5_2 v0 v1 v2 v3 v4) ∧ y2 = (own_nf3 v0 v1 v2) ∧ z2 = (own_nt5_3 v0 v1 v2 v3 v4)) ∧ Go p e below A0 (T692.setTop (mkF m 82 #[.val (.ref a), .val (.ref b567), .val (.int (own_nf5 v0 v1 v2 v3 v4)), .val (.int y2), .val (.int z2), .val (.int (2 : Int32))] [(.int x2), (.ref b567)])) := by
    by_cases hc700 : v2 = (0 : Int32)
    · have G701 : Go p e below A0 (T692.setTop (mkF m 82 #[.val (.ref a), .val (.ref b567), .val (.int (own_nf5 v0 v1 v2 v3 v4)), .val (.int ((own_nf2 v0 v1) + (1 : Int32))), .val (.int (own_nt5_2 v0 v1 v2 v3 v4)), .val (.int (2 : Int32))] [(.int (own_nf2 v0 v1)), (.ref b567)])) := fun tq kq => G698 tq (by
        refine XS.ifYes X692.here hx rfl (pc0 := 67) (pc' := 78) rfl (hb hby d3_67) rfl ((if0 _ _).trans (teq hc700).1) (by decide) (by decide) ?_
        show Steps p.tables e below (T692.setTop (mkF m 78 #[.val (.ref a), .val (.ref b567), .val (.int (own_nf5 v0 v1 v2 v3 v4)), .val (.int (own_nf2 v0 v1)), .val (.int (own_nt5_2 v0 v1 v2 v3 v4)), .val (.int (2 : Int32))] [(.ref b567)])) _
        refine XS.iloadN X692.here hx rfl (hb hby d3_78) rfl ?_
        show Steps p.tables e below (T692.setTop (mkF m 79 #[.val (.ref a), .val (.ref b567), .val (.int (own_nf5 v0 v1 v2 v3 v4)), .val (.int (own_nf2 v0 v1)), .val (.int (own_nt5_2 v0 v1 v2 v3 v4)), .val (.int (2 : Int32))] [(.int (own_nf2 v0 v1)), (.ref b567)])) _
        refine XS.iinc X692.here hx rfl (hb hby d3_79) rfl (l' := #[.val (.ref a), .val (.ref b567), .val (.int (own_nf5 v0 v1 v2 v3 v4)), .val (.int ((own_nf2 v0 v1) + (1 : Int32))), .val (.int (own_nt5_2 v0 v1 v2 v3 v4)), .val (.int (2 : Int32))]) rfl ?_
        show Steps p.tables e below (T692.setTop (mkF m 82 #[.val (.ref a), .val (.ref b567), .val (.int (own_nf5 v0 v1 v2 v3 v4)), .val (.int ((own_nf2 v0 v1) + (1 : Int32))), .val (.int (own_nt5_2 v0 v1 v2 v3 v4)), .val (.int (2 : Int32))] [(.int (own_nf2 v0 v1)), (.ref b567)])) _
        exact kq)
      exact ⟨(own_nf2 v0 v1), ((own_nf2 v0 v1) + (1 : Int32)), (own_nt5_2 v0 v1 v2 v3 v4), (by exact ⟨(if_pos hc700).symm, (congrArg (fun q => (own_nf2 v0 v1) + q) (own_bt hc700)).symm, ((congrArg (fun q => (own_nt5_2 v0 v1 v2 v3 v4) + q) (own_b0 (fun q => q hc700))).trans (Int32.add_zero _)).symm⟩), G701⟩
    · have G702 : Go p e below A0 (T692.setTop (mkF m 82 #[.val (.ref a), .val (.ref b567), .val (.int (own_nf5 v0 v1 v2 v3 v4)), .val (.int (own_nf2 v0 v1)), .val (.int ((own_nt5_2 v0 v1 v2 v3 v4) + (1 : Int32))), .val (.int (2 : Int32))] [(.int (own_nt5_2 v0 v1 v2 v3 v4)), (.ref b567)])) := fun tq kq => G698 tq (by
        refine XS.ifNo X692.here hx rfl (hb hby d3_67) rfl ((if0 _ _).trans (feq hc700).1) ?_
        show Steps p.tables e below (T692.setTop (mkF m 70 #[.val (.ref a), .val (.ref b567), .val (.int (own_nf5 v0 v1 v2 v3 v4)), .val (.int (own_nf2 v0 v1)), .val (.int (own_nt5_2 v0 v1 v2 v3 v4)), .val (.int (2 : Int32))] [(.ref b567)])) _
        refine XS.iload X692.here hx rfl (hb hby d3_70) rfl ?_
        show Steps p.tables e below (T692.setTop (mkF m 72 #[.val (.ref a), .val (.ref b567), .val (.int (own_nf5 v0 v1 v2 v3 v4)), .val (.int (own_nf2 v0 v1)), .val (.int (own_nt5_2 v0 v1 v2 v3 v4)), .val (.int (2 : Int32))] [(.int (own_nt5_2 v0 v1 v2 v3 v4)), (.ref b567)])) _
        refine XS.iinc X692.here hx rfl (hb hby d3_72) rfl (l' := #[.val (.ref a), .val (.ref b567), .val (.int (own_nf5 v0 v1 v2 v3 v4)), .val (.int (own_nf2 v0 v1)), .val (.int ((own_nt5_2 v0 v1 v2 v3 v4) + (1 : Int32))), .val (.int (2 : Int32))]) rfl ?_
        show Steps p.tables e below (T692.setTop (mkF m 75 #[.val (.ref a), .val (.ref b567), .val (.int (own_nf5 v0 v1 v2 v3 v4)), .val (.int (own_nf2 v0 v1)), .val (.int ((own_nt5_2 v0 v1 v2 v3 v4) + (1 : Int32))), .val (.int (2 : Int32))] [(.int (own_nt5_2 v0 v1 v2 v3 v4)), (.ref b567)])) _
        refine XS.goto X692.here hx rfl (pc0 := 75) (pc' := 82) rfl (hb hby d3_75) (by decide) (by decide) ?_
        show Steps p.tables e below (T692.setTop (mkF m 82 #[.val (.ref a), .val (.ref b567), .val (.int (own_nf5 v0 v1 v2 v3 v4)), .val (.int (own_nf2 v0 v1)), .val (.int ((own_nt5_2 v0 v1 v2 v3 v4) + (1 : Int32))), .val (.int (2 : Int32))] [(.int (own_nt5_2 v0 v1 v2 v3 v4)), (.ref b567)])) _
        exact kq)
      exact ⟨(own_nt5_2 v0 v1 v2 v3 v4), (own_nf2 v0 v1), ((own_nt5_2 v0 v1 v2 v3 v4) + (1 : Int32)), (by exact ⟨(if_neg hc700).symm, ((congrArg (fun q => (own_nf2 v0 v1) + q) (own_b0 hc700)).trans (Int32.add_zero _)).symm, (congrArg (fun q => (own_nt5_2 v0 v1 v2 v3 v4) + q) (own_bt hc700)).symm⟩), G702⟩
  obtain ⟨rfl, rfl, rfl⟩ := hG699
  have G703 : Go p e below A0 (T692.setTop (mkF m 84 #[.val (.ref a), .val (.ref b567), .val (.int (own_nf5 v0 v1 v2 v3 v4)), .val (.int (own_nf3 v0 v1 v2)), .val (.int (own_nt5_3 v0 v1 v2 v3 v4)), .val (.int (2 : Int32))] [(.int (2 : Int32)), (.int (own_ix5_2 v0 v1 v2 v3 v4)), (.ref b567)])) := fun tq kq => G699 tq (by
    refine XS.iload X692.here hx rfl (hb hby d3_82) rfl ?_
    show Steps p.tables e below (T692.setTop (mkF m 84 #[.val (.ref a), .val (.ref b567), .val (.int (own_nf5 v0 v1 v2 v3 v4)), .val (.int (own_nf3 v0 v1 v2)), .val (.int (own_nt5_3 v0 v1 v2 v3 v4)), .val (.int (2 : Int32))] [(.int (2 : Int32)), (.int (own_ix5_2 v0 v1 v2 v3 v4)), (.ref b567)])) _
    exact kq)
  obtain ⟨cl704, Ar704, q704, S704, M704, H704⟩ := id V684'
  have hi705 : ¬ ((own_ix5_2 v0 v1 v2 v3 v4) < 0 ∨ cl704.slots.size ≤ ((own_ix5_2 v0 v1 v2 v3 v4)).toNatClampNeg) := (inb_of S704 (own_idx_5_2 v0 v1 v2 v3 v4 hb0 hb1 hb2 hb3 hb4))
  obtain ⟨T706, h706, X706, e706, W706, st706⟩ := stI X692 hx hZ e692 Ar704 (j := (own_ix5_2 v0 v1 v2 v3 v4)) hi705 (g := (mkF m 84 #[.val (.ref a), .val (.ref b567), .val (.int (own_nf5 v0 v1 v2 v3 v4)), .val (.int (own_nf3 v0 v1 v2)), .val (.int (own_nt5_3 v0 v1 v2 v3 v4)), .val (.int (2 : Int32))] [(.int (2 : Int32)), (.int (own_ix5_2 v0 v1 v2 v3 v4)), (.ref b567)])) rfl rfl (hb hby d3_84)
  have N706 := Fr.snoc X706 N684 g_b567
  have V706 : Af Z h706 b567 k567 .int (5 : Int32) (fun i => if i = ((own_ix5_2 v0 v1 v2 v3 v4)).toNatClampNeg then (.int (2 : Int32)) else ((own_g5_2 v0 v1 v2 v3 v4)) i) := Af.set Ar704 q704 S704 M704 H704 W706 hi705
  have V706' : Af Z h706 b567 k567 .int (5 : Int32) (own_g5_3 v0 v1 v2 v3 v4) := V706.fn (fun _ _ => rfl)
  have G707 : Go p e below A0 (T706.setTop (mkF m 85 #[.val (.ref a), .val (.ref b567), .val (.int (own_nf5 v0 v1 v2 v3 v4)), .val (.int (own_nf3 v0 v1 v2)), .val (.int (own_nt5_3 v0 v1 v2 v3 v4)), .val (.int (2 : Int32))] [])) := fun tq kq => G703 tq (st706 _ kq)
  have G708 : Go p e below A0 (T706.setTop (mkF m 53 #[.val (.ref a), .val (.ref b567), .val (.int (own_nf5 v0 v1 v2 v3 v4)), .val (.int (own_nf3 v0 v1 v2)), .val (.int (own_nt5_3 v0 v1 v2 v3 v4)), .val (.int (3 : Int32))] [(.ref a), (.int (3 : Int32))])) := fun tq kq => G707 tq (by
    refine XS.iinc X706.here hx rfl (hb hby d3_85) rfl (l' := #[.val (.ref a), .val (.ref b567), .val (.int (own_nf5 v0 v1 v2 v3 v4)), .val (.int (own_nf3 v0 v1 v2)), .val (.int (own_nt5_3 v0 v1 v2 v3 v4)), .val (.int ((2 : Int32) + (1 : Int32)))]) rfl ?_
    show Steps p.tables e below (T706.setTop (mkF m 88 #[.val (.ref a), .val (.ref b567), .val (.int (own_nf5 v0 v1 v2 v3 v4)), .val (.int (own_nf3 v0 v1 v2)), .val (.int (own_nt5_3 v0 v1 v2 v3 v4)), .val (.int ((2 : Int32) + (1 : Int32)))] [])) _
    rw [show ((2 : Int32) + (1 : Int32)) = (3 : Int32) from (by decide : ((2 : Int32) + (1 : Int32)) = (3 : Int32))]
    show Steps p.tables e below (T706.setTop (mkF m 88 #[.val (.ref a), .val (.ref b567), .val (.int (own_nf5 v0 v1 v2 v3 v4)), .val (.int (own_nf3 v0 v1 v2)), .val (.int (own_nt5_3 v0 v1 v2 v3 v4)), .val (.int (3 : Int32))] [])) _
    refine XS.goto X706.here hx rfl (pc0 := 88) (pc' := 50) rfl (hb hby d3_88) (by decide) (by decide) ?_
    show Steps p.tables e below (T706.setTop (mkF m 50 #[.val (.ref a), .val (.ref b567), .val (.int (own_nf5 v0 v1 v2 v3 v4)), .val (.int (own_nf3 v0 v1 v2)), .val (.int (own_nt5_3 v0 v1 v2 v3 v4)), .val (.int (3 : Int32))] [])) _
    refine XS.iload X706.here hx rfl (hb hby d3_50) rfl ?_
    show Steps p.tables e below (T706.setTop (mkF m 52 #[.val (.ref a), .val (.ref b567), .val (.int (own_nf5 v0 v1 v2 v3 v4)), .val (.int (own_nf3 v0 v1 v2)), .val (.int (own_nt5_3 v0 v1 v2 v3 v4)), .val (.int (3 : Int32))] [(.int (3 : Int32))])) _
    refine XS.aloadN X706.here hx rfl (hb hby d3_52) rfl rfl ?_
    show Steps p.tables e below (T706.setTop (mkF m 53 #[.val (.ref a), .val (.ref b567), .val (.int (own_nf5 v0 v1 v2 v3 v4)), .val (.int (own_nf3 v0 v1 v2)), .val (.int (own_nt5_3 v0 v1 v2 v3 v4)), .val (.int (3 : Int32))] [(.ref a), (.int (3 : Int32))])) _
    exact kq)
  have f709 := (f687.other W706 (Or.inl ne_a_b567))
  obtain ⟨T710, X710, e710, st710⟩ := getF X706 hx hZ hown (host := "") (Or.inl (hw _ (List.mem_of_getElem? (i := 28) rfl))) Via.refl e706 f709 (g := (mkF m 53 #[.val (.ref a), .val (.ref b567), .val (.int (own_nf5 v0 v1 v2 v3 v4)), .val (.int (own_nf3 v0 v1 v2)), .val (.int (own_nt5_3 v0 v1 v2 v3 v4)), .val (.int (3 : Int32))] [(.ref a), (.int (3 : Int32))])) rfl rfl (hb hby d3_53)
  have G711 : Go p e below A0 (T710.setTop (mkF m 56 #[.val (.ref a), .val (.ref b567), .val (.int (own_nf5 v0 v1 v2 v3 v4)), .val (.int (own_nf3 v0 v1 v2)), .val (.int (own_nt5_3 v0 v1 v2 v3 v4)), .val (.int (3 : Int32))] [(.int (5 : Int32)), (.int (3 : Int32))])) := fun tq kq => G708 tq (st710 _ kq)
  have G712 : Go p e below A0 (T710.setTop (mkF m 61 #[.val (.ref a), .val (.ref b567), .val (.int (own_nf5 v0 v1 v2 v3 v4)), .val (.int (own_nf3 v0 v1 v2)), .val (.int (own_nt5_3 v0 v1 v2 v3 v4)), .val (.int (3 : Int32))] [(.ref a), (.ref b567)])) := fun tq kq => G711 tq (by
    refine XS.icmpNo X710.here hx rfl (hb hby d3_56) rfl (by decide) ?_
    show Steps p.tables e below (T710.setTop (mkF m 59 #[.val (.ref a), .val (.ref b567), .val (.int (own_nf5 v0 v1 v2 v3 v4)), .val (.int (own_nf3 v0 v1 v2)), .val (.int (own_nt5_3 v0 v1 v2 v3 v4)), .val (.int (3 : Int32))] [])) _
    refine XS.aloadN X710.here hx rfl (hb hby d3_59) rfl rfl ?_
    show Steps p.tables e below (T710.setTop (mkF m 60 #[.val (.ref a), .val (.ref b567), .val (.int (own_nf5 v0 v1 v2 v3 v4)), .val (.int (own_nf3 v0 v1 v2)), .val (.int (own_nt5_3 v0 v1 v2 v3 v4)), .val (.int (3 : Int32))] [(.ref b567)])) _
    refine XS.aloadN X710.here hx rfl (hb hby d3_60) rfl rfl ?_
    show Steps p.tables e below (T710.setTop (mkF m 61 #[.val (.ref a), .val (.ref b567), .val (.int (own_nf5 v0 v1 v2 v3 v4)), .val (.int (own_nf3 v0 v1 v2)), .val (.int (own_nt5_3 v0 v1 v2 v3 v4)), .val (.int (3 : Int32))] [(.ref a), (.ref b567)])) _
    exact kq)
  have f713 := (f691.other W706 (Or.inl ne_a_b567))
  obtain ⟨T714, X714, e714, st714⟩ := getF X710 hx hZ hown (host := "") (Or.inl (hw _ (List.mem_of_getElem? (i := 19) rfl))) Via.refl e710 f713 (g := (mkF m 61 #[.val (.ref a), .val (.ref b567), .val (.int (own_nf5 v0 v1 v2 v3 v4)), .val (.int (own_nf3 v0 v1 v2)), .val (.int (own_nt5_3 v0 v1 v2 v3 v4)), .val (.int (3 : Int32))] [(.ref a), (.ref b567)])) rfl rfl (hb hby d3_61)
  have G715 : Go p e below A0 (T714.setTop (mkF m 64 #[.val (.ref a), .val (.ref b567), .val (.int (own_nf5 v0 v1 v2 v3 v4)), .val (.int (own_nf3 v0 v1 v2)), .val (.int (own_nt5_3 v0 v1 v2 v3 v4)), .val (.int (3 : Int32))] [(.ref b), (.ref b567)])) := fun tq kq => G712 tq (st714 _ kq)
  have G716 : Go p e below A0 (T714.setTop (mkF m 66 #[.val (.ref a), .val (.ref b567), .val (.int (own_nf5 v0 v1 v2 v3 v4)), .val (.int (own_nf3 v0 v1 v2)), .val (.int (own_nt5_3 v0 v1 v2 v3 v4)), .val (.int (3 : Int32))] [(.int (3 : Int32)), (.ref b), (.ref b567)])) := fun tq kq => G715 tq (by
    refine XS.iload X714.here hx rfl (hb hby d3_64) rfl ?_
    show Steps p.tables e below (T714.setTop (mkF m 66 #[.val (.ref a), .val (.ref b567), .val (.int (own_nf5 v0 v1 v2 v3 v4)), .val (.int (own_nf3 v0 v1 v2)), .val (.int (own_nt5_3 v0 v1 v2 v3 v4)), .val (.int (3 : Int32))] [(.int (3 : Int32)), (.ref b), (.ref b567)])) _
    exact kq)
  have f717 := (f695.other W706 ne_b_b567)
  obtain ⟨cl718, Ar718, q718, S718, M718, H718, Gf718⟩ := id f717
  have hi719 : ¬ ((3 : Int32) < 0 ∨ cl718.slots.size ≤ ((3 : Int32)).toNatClampNeg) := (inb_of S718 ⟨by decide, by decide⟩)
  have G720 : Go p e below A0 (T714.setTop (mkF m 67 #[.val (.ref a), .val (.ref b567), .val (.int (own_nf5 v0 v1 v2 v3 v4)), .val (.int (own_nf3 v0 v1 v2)), .val (.int (own_nt5_3 v0 v1 v2 v3 v4)), .val (.int (3 : Int32))] [(.int v3), (.ref b567)])) := fun tq kq => G716 tq (by
    refine X714.baloadBooleans hx (j := (3 : Int32)) (v := (.int v3)) (by rw [e714]; exact Ar718.1) (State.isArrayOf_alike hZ.alike Ar718.2.1) Ar718.2.2 hi719 (H718.at hi719 rfl) (g := (mkF m 66 #[.val (.ref a), .val (.ref b567), .val (.int (own_nf5 v0 v1 v2 v3 v4)), .val (.int (own_nf3 v0 v1 v2)), .val (.int (own_nt5_3 v0 v1 v2 v3 v4)), .val (.int (3 : Int32))] [(.int (3 : Int32)), (.ref b), (.ref b567)])) rfl rfl (hb hby d3_66) _ ?_
    show Steps p.tables e below (T714.setTop (mkF m 67 #[.val (.ref a), .val (.ref b567), .val (.int (own_nf5 v0 v1 v2 v3 v4)), .val (.int (own_nf3 v0 v1 v2)), .val (.int (own_nt5_3 v0 v1 v2 v3 v4)), .val (.int (3 : Int32))] [(.int v3), (.ref b567)])) _
    exact kq)
  obtain ⟨x3, y3, z3, hG721, G721⟩ : ∃ (x3 : Int32) (y3 : Int32) (z3 : Int32), (x3 = (own_ix5_3 v0 v1 v2 v3 v4) ∧ y3 = (own_nf4 v0 v1 v2 v3) ∧ z3 = (own_nt5_4 v0 v1 v2 v3 v4)) ∧ Go p e below A0 (T714.setTop (mkF m 82 #[.val (.ref a), .val (.ref b567), .val (.int (own_nf5 v0 v1 v2 v3 v4)), .val (.int y3), .val (.int z3), .val (.int (3 : Int32))] [(.int x3), (.ref b567)])) := by
    by_cases hc722 : v3 = (0 : Int32)
    · have G723 : Go p e below A0 (T714.setTop (mkF m 82 #[.val (.ref a), .val (.ref b567), .val (.int (own_nf5 v0 v1 v2 v3 v4)), .val (.int ((own_nf3 v0 v1 v2) + (1 : Int32))), .val (.int (own_nt5_3 v0 v1 v2 v3 v4)), .val (.int (3 : Int32))] [(.int (own_nf3 v0 v1 v2)), (.ref b567)])) := fun tq kq => G720 tq (by
        refine XS.ifYes X714.here hx rfl (pc0 := 67) (pc' := 78) rfl (hb hby d3_67) rfl ((if0 _ _).trans (teq hc722).1) (by decide) (by decide) ?_
        show Steps p.tables e below (T714.setTop (mkF m 78 #[.val (.ref a), .val (.ref b567), .val (.int (own_nf5 v0 v1 v2 v3 v4)), .val (.int (own_nf3 v0 v1 v2)), .val (.int (own_nt5_3 v0 v1 v2 v3 v4)), .val (.int (3 : Int32))] [(.ref b567)])) _
        refine XS.iloadN X714.here hx rfl (hb hby d3_78) rfl ?_
        show Steps p.tables e below (T714.setTop (mkF m 79 #[.val (.ref a), .val (.ref b567), .val (.int (own_nf5 v0 v1 v2 v3 v4)), .val (.int (own_nf3 v0 v1 v2)), .val (.int (own_nt5_3 v0 v1 v2 v3 v4)), .val (.int (3 : Int32))] [(.int (own_nf3 v0 v1 v2)), (.ref b567)])) _
        refine XS.iinc X714.here hx rfl (hb hby d3_79) rfl (l' := #[.val (.ref a), .val (.ref b567), .val (.int (own_nf5 v0 v1 v2 v3 v4)), .val (.int ((own_nf3 v0 v1 v2) + (1 : Int32))), .val (.int (own_nt5_3 v0 v1 v2 v3 v4)), .val (.int (3 : Int32))]) rfl ?_
        show Steps p.tables e below (T714.setTop (mkF m 82 #[.val (.ref a), .val (.ref b567), .val (.int (own_nf5 v0 v1 v2 v3 v4)), .val (.int ((own_nf3 v0 v1 v2) + (1 : Int32))), .val (.int (own_nt5_3 v0 v1 v2 v3 v4)), .val (.int (3 : Int32))] [(.int (own_nf3 v0 v1 v2)), (.ref b567)])) _
        exact kq)
      exact ⟨(own_nf3 v0 v1 v2), ((own_nf3 v0 v1 v2) + (1 : Int32)), (own_nt5_3 v0 v1 v2 v3 v4), (by exact ⟨(if_pos hc722).symm, (congrArg (fun q => (own_nf3 v0 v1 v2) + q) (own_bt hc722)).symm, ((congrArg (fun q => (own_nt5_3 v0 v1 v2 v3 v4) + q) (own_b0 (fun q => q hc722))).trans (Int32.add_zero _)).symm⟩), G723⟩
    · have G724 : Go p e below A0 (T714.setTop (mkF m 82 #[.val (.ref a), .val (.ref b567), .val (.int (own_nf5 v0 v1 v2 v3 v4)), .val (.int (own_nf3 v0 v1 v2)), .val (.int ((own_nt5_3 v0 v1 v2 v3 v4) + (1 : Int32))), .val (.int (3 : Int32))] [(.int (own_nt5_3 v0 v1 v2 v3 v4)), (.ref b567)])) := fun tq kq => G720 tq (by
        refine XS.ifNo X714.here hx rfl (hb hby d3_67) rfl ((if0 _ _).trans (feq hc722).1) ?_
        show Steps p.tables e below (T714.setTop (mkF m 70 #[.val (.ref a), .val (.ref b567), .val (.int (own_nf5 v0 v1 v2 v3 v4)), .val (.int (own_nf3 v0 v1 v2)), .val (.int (own_nt5_3 v0 v1 v2 v3 v4)), .val (.int (3 : Int32))] [(.ref b567)])) _
        refine XS.iload X714.here hx rfl (hb hby d3_70) rfl ?_
        show Steps p.tables e below (T714.setTop (mkF m 72 #[.val (.ref a), .val (.ref b567), .val (.int (own_nf5 v0 v1 v2 v3 v4)), .val (.int (own_nf3 v0 v1 v2)), .val (.int (own_nt5_3 v0 v1 v2 v3 v4)), .val (.int (3 : Int32))] [(.int (own_nt5_3 v0 v1 v2 v3 v4)), (.ref b567)])) _
        refine XS.iinc X714.here hx rfl (hb hby d3_72) rfl (l' := #[.val (.ref a), .val (.ref b567), .val (.int (own_nf5 v0 v1 v2 v3 v4)), .val (.int (own_nf3 v0 v1 v2)), .val (.int ((own_nt5_3 v0 v1 v2 v3 v4) + (1 : Int32))), .val (.int (3 : Int32))]) rfl ?_
        show Steps p.tables e below (T714.setTop (mkF m 75 #[.val (.ref a), .val (.ref b567), .val (.int (own_nf5 v0 v1 v2 v3 v4)), .val (.int (own_nf3 v0 v1 v2)), .val (.int ((own_nt5_3 v0 v1 v2 v3 v4) + (1 : Int32))), .val (.int (3 : Int32))] [(.int (own_nt5_3 v0 v1 v2 v3 v4)), (.ref b567)])) _
        refine XS.goto X714.here hx rfl (pc0 := 75) (pc' := 82) rfl (hb hby d3_75) (by decide) (by decide) ?_
        show Steps p.tables e below (T714.setTop (mkF m 82 #[.val (.ref a), .val (.ref b567), .val (.int (own_nf5 v0 v1 v2 v3 v4)), .val (.int (own_nf3 v0 v1 v2)), .val (.int ((own_nt5_3 v0 v1 v2 v3 v4) + (1 : Int32))), .val (.int (3 : Int32))] [(.int (own_nt5_3 v0 v1 v2 v3 v4)), (.ref b567)])) _
        exact kq)
      exact ⟨(own_nt5_3 v0 v1 v2 v3 v4), (own_nf3 v0 v1 v2), ((own_nt5_3 v0 v1 v2 v3 v4) + (1 : Int32)), (by exact ⟨(if_neg hc722).symm, ((congrArg (fun q => (own_nf3 v0 v1 v2) + q) (own_b0 hc722)).trans (Int32.add_zero _)).symm, (congrArg (fun q => (own_nt5_3 v0 v1 v2 v3 v4) + q) (own_bt hc722)).symm⟩), G724⟩
  obtain ⟨rfl, rfl, rfl⟩ := hG721
  have G725 : Go p e below A0 (T714.setTop (mkF m 84 #[.val (.ref a), .val (.ref b567), .val (.int (own_nf5 v0 v1 v2 v3 v4)), .val (.int (own_nf4 v0 v1 v2 v3)), .val (.int (own_nt5_4 v0 v1 v2 v3 v4)), .val (.int (3 : Int32))] [(.int (3 : Int32)), (.int (own_ix5_3 v0 v1 v2 v3 v4)), (.ref b567)])) := fun tq kq => G721 tq (by
    refine XS.iload X714.here hx rfl (hb hby d3_82) rfl ?_
    show Steps p.tables e below (T714.setTop (mkF m 84 #[.val (.ref a), .val (.ref b567), .val (.int (own_nf5 v0 v1 v2 v3 v4)), .val (.int (own_nf4 v0 v1 v2 v3)), .val (.int (own_nt5_4 v0 v1 v2 v3 v4)), .val (.int (3 : Int32))] [(.int (3 : Int32)), (.int (own_ix5_3 v0 v1 v2 v3 v4)), (.ref b567)])) _
    exact kq)
  obtain ⟨cl726, Ar726, q726, S726, M726, H726⟩ := id V706'
  have hi727 : ¬ ((own_ix5_3 v0 v1 v2 v3 v4) < 0 ∨ cl726.slots.size ≤ ((own_ix5_3 v0 v1 v2 v3 v4)).toNatClampNeg) := (inb_of S726 (own_idx_5_3 v0 v1 v2 v3 v4 hb0 hb1 hb2 hb3 hb4))
  obtain ⟨T728, h728, X728, e728, W728, st728⟩ := stI X714 hx hZ e714 Ar726 (j := (own_ix5_3 v0 v1 v2 v3 v4)) hi727 (g := (mkF m 84 #[.val (.ref a), .val (.ref b567), .val (.int (own_nf5 v0 v1 v2 v3 v4)), .val (.int (own_nf4 v0 v1 v2 v3)), .val (.int (own_nt5_4 v0 v1 v2 v3 v4)), .val (.int (3 : Int32))] [(.int (3 : Int32)), (.int (own_ix5_3 v0 v1 v2 v3 v4)), (.ref b567)])) rfl rfl (hb hby d3_84)
  have N728 := Fr.snoc X728 N706 g_b567
  have V728 : Af Z h728 b567 k567 .int (5 : Int32) (fun i => if i = ((own_ix5_3 v0 v1 v2 v3 v4)).toNatClampNeg then (.int (3 : Int32)) else ((own_g5_3 v0 v1 v2 v3 v4)) i) := Af.set Ar726 q726 S726 M726 H726 W728 hi727
  have V728' : Af Z h728 b567 k567 .int (5 : Int32) (own_g5_4 v0 v1 v2 v3 v4) := V728.fn (fun _ _ => rfl)
  have G729 : Go p e below A0 (T728.setTop (mkF m 85 #[.val (.ref a), .val (.ref b567), .val (.int (own_nf5 v0 v1 v2 v3 v4)), .val (.int (own_nf4 v0 v1 v2 v3)), .val (.int (own_nt5_4 v0 v1 v2 v3 v4)), .val (.int (3 : Int32))] [])) := fun tq kq => G725 tq (st728 _ kq)
  have G730 : Go p e below A0 (T728.setTop (mkF m 53 #[.val (.ref a), .val (.ref b567), .val (.int (own_nf5 v0 v1 v2 v3 v4)), .val (.int (own_nf4 v0 v1 v2 v3)), .val (.int (own_nt5_4 v0 v1 v2 v3 v4)), .val (.int (4 : Int32))] [(.ref a), (.int (4 : Int32))])) := fun tq kq => G729 tq (by
    refine XS.iinc X728.here hx rfl (hb hby d3_85) rfl (l' := #[.val (.ref a), .val (.ref b567), .val (.int (own_nf5 v0 v1 v2 v3 v4)), .val (.int (own_nf4 v0 v1 v2 v3)), .val (.int (own_nt5_4 v0 v1 v2 v3 v4)), .val (.int ((3 : Int32) + (1 : Int32)))]) rfl ?_
    show Steps p.tables e below (T728.setTop (mkF m 88 #[.val (.ref a), .val (.ref b567), .val (.int (own_nf5 v0 v1 v2 v3 v4)), .val (.int (own_nf4 v0 v1 v2 v3)), .val (.int (own_nt5_4 v0 v1 v2 v3 v4)), .val (.int ((3 : Int32) + (1 : Int32)))] [])) _
    rw [show ((3 : Int32) + (1 : Int32)) = (4 : Int32) from (by decide : ((3 : Int32) + (1 : Int32)) = (4 : Int32))]
    show Steps p.tables e below (T728.setTop (mkF m 88 #[.val (.ref a), .val (.ref b567), .val (.int (own_nf5 v0 v1 v2 v3 v4)), .val (.int (own_nf4 v0 v1 v2 v3)), .val (.int (own_nt5_4 v0 v1 v2 v3 v4)), .val (.int (4 : Int32))] [])) _
    refine XS.goto X728.here hx rfl (pc0 := 88) (pc' := 50) rfl (hb hby d3_88) (by decide) (by decide) ?_
    show Steps p.tables e below (T728.setTop (mkF m 50 #[.val (.ref a), .val (.ref b567), .val (.int (own_nf5 v0 v1 v2 v3 v4)), .val (.int (own_nf4 v0 v1 v2 v3)), .val (.int (own_nt5_4 v0 v1 v2 v3 v4)), .val (.int (4 : Int32))] [])) _
    refine XS.iload X728.here hx rfl (hb hby d3_50) rfl ?_
    show Steps p.tables e below (T728.setTop (mkF m 52 #[.val (.ref a), .val (.ref b567), .val (.int (own_nf5 v0 v1 v2 v3 v4)), .val (.int (own_nf4 v0 v1 v2 v3)), .val (.int (own_nt5_4 v0 v1 v2 v3 v4)), .val (.int (4 : Int32))] [(.int (4 : Int32))])) _
    refine XS.aloadN X728.here hx rfl (hb hby d3_52) rfl rfl ?_
    show Steps p.tables e below (T728.setTop (mkF m 53 #[.val (.ref a), .val (.ref b567), .val (.int (own_nf5 v0 v1 v2 v3 v4)), .val (.int (own_nf4 v0 v1 v2 v3)), .val (.int (own_nt5_4 v0 v1 v2 v3 v4)), .val (.int (4 : Int32))] [(.ref a), (.int (4 : Int32))])) _
    exact kq)
  have f731 := (f709.other W728 (Or.inl ne_a_b567))
  obtain ⟨T732, X732, e732, st732⟩ := getF X728 hx hZ hown (host := "") (Or.inl (hw _ (List.mem_of_getElem? (i := 28) rfl))) Via.refl e728 f731 (g := (mkF m 53 #[.val (.ref a), .val (.ref b567), .val (.int (own_nf5 v0 v1 v2 v3 v4)), .val (.int (own_nf4 v0 v1 v2 v3)), .val (.int (own_nt5_4 v0 v1 v2 v3 v4)), .val (.int (4 : Int32))] [(.ref a), (.int (4 : Int32))])) rfl rfl (hb hby d3_53)
  have G733 : Go p e below A0 (T732.setTop (mkF m 56 #[.val (.ref a), .val (.ref b567), .val (.int (own_nf5 v0 v1 v2 v3 v4)), .val (.int (own_nf4 v0 v1 v2 v3)), .val (.int (own_nt5_4 v0 v1 v2 v3 v4)), .val (.int (4 : Int32))] [(.int (5 : Int32)), (.int (4 : Int32))])) := fun tq kq => G730 tq (st732 _ kq)
  have G734 : Go p e below A0 (T732.setTop (mkF m 61 #[.val (.ref a), .val (.ref b567), .val (.int (own_nf5 v0 v1 v2 v3 v4)), .val (.int (own_nf4 v0 v1 v2 v3)), .val (.int (own_nt5_4 v0 v1 v2 v3 v4)), .val (.int (4 : Int32))] [(.ref a), (.ref b567)])) := fun tq kq => G733 tq (by
    refine XS.icmpNo X732.here hx rfl (hb hby d3_56) rfl (by decide) ?_
    show Steps p.tables e below (T732.setTop (mkF m 59 #[.val (.ref a), .val (.ref b567), .val (.int (own_nf5 v0 v1 v2 v3 v4)), .val (.int (own_nf4 v0 v1 v2 v3)), .val (.int (own_nt5_4 v0 v1 v2 v3 v4)), .val (.int (4 : Int32))] [])) _
    refine XS.aloadN X732.here hx rfl (hb hby d3_59) rfl rfl ?_
    show Steps p.tables e below (T732.setTop (mkF m 60 #[.val (.ref a), .val (.ref b567), .val (.int (own_nf5 v0 v1 v2 v3 v4)), .val (.int (own_nf4 v0 v1 v2 v3)), .val (.int (own_nt5_4 v0 v1 v2 v3 v4)), .val (.int (4 : Int32))] [(.ref b567)])) _
    refine XS.aloadN X732.here hx rfl (hb hby d3_60) rfl rfl ?_
    show Steps p.tables e below (T732.setTop (mkF m 61 #[.val (.ref a), .val (.ref b567), .val (.int (own_nf5 v0 v1 v2 v3 v4)), .val (.int (own_nf4 v0 v1 v2 v3)), .val (.int (own_nt5_4 v0 v1 v2 v3 v4)), .val (.int (4 : Int32))] [(.ref a), (.ref b567)])) _
    exact kq)
  have f735 := (f713.other W728 (Or.inl ne_a_b567))
  obtain ⟨T736, X736, e736, st736⟩ := getF X732 hx hZ hown (host := "") (Or.inl (hw _ (List.mem_of_getElem? (i := 19) rfl))) Via.refl e732 f735 (g := (mkF m 61 #[.val (.ref a), .val (.ref b567), .val (.int (own_nf5 v0 v1 v2 v3 v4)), .val (.int (own_nf4 v0 v1 v2 v3)), .val (.int (own_nt5_4 v0 v1 v2 v3 v4)), .val (.int (4 : Int32))] [(.ref a), (.ref b567)])) rfl rfl (hb hby d3_61)
  have G737 : Go p e below A0 (T736.setTop (mkF m 64 #[.val (.ref a), .val (.ref b567), .val (.int (own_nf5 v0 v1 v2 v3 v4)), .val (.int (own_nf4 v0 v1 v2 v3)), .val (.int (own_nt5_4 v0 v1 v2 v3 v4)), .val (.int (4 : Int32))] [(.ref b), (.ref b567)])) := fun tq kq => G734 tq (st736 _ kq)
  have G738 : Go p e below A0 (T736.setTop (mkF m 66 #[.val (.ref a), .val (.ref b567), .val (.int (own_nf5 v0 v1 v2 v3 v4)), .val (.int (own_nf4 v0 v1 v2 v3)), .val (.int (own_nt5_4 v0 v1 v2 v3 v4)), .val (.int (4 : Int32))] [(.int (4 : Int32)), (.ref b), (.ref b567)])) := fun tq kq => G737 tq (by
    refine XS.iload X736.here hx rfl (hb hby d3_64) rfl ?_
    show Steps p.tables e below (T736.setTop (mkF m 66 #[.val (.ref a), .val (.ref b567), .val (.int (own_nf5 v0 v1 v2 v3 v4)), .val (.int (own_nf4 v0 v1 v2 v3)), .val (.int (own_nt5_4 v0 v1 v2 v3 v4)), .val (.int (4 : Int32))] [(.int (4 : Int32)), (.ref b), (.ref b567)])) _
    exact kq)
  have f739 := (f717.other W728 ne_b_b567)
  obtain ⟨cl740, Ar740, q740, S740, M740, H740, Gf740⟩ := id f739
  have hi741 : ¬ ((4 : Int32) < 0 ∨ cl740.slots.size ≤ ((4 : Int32)).toNatClampNeg) := (inb_of S740 ⟨by decide, by decide⟩)
  have G742 : Go p e below A0 (T736.setTop (mkF m 67 #[.val (.ref a), .val (.ref b567), .val (.int (own_nf5 v0 v1 v2 v3 v4)), .val (.int (own_nf4 v0 v1 v2 v3)), .val (.int (own_nt5_4 v0 v1 v2 v3 v4)), .val (.int (4 : Int32))] [(.int v4), (.ref b567)])) := fun tq kq => G738 tq (by
    refine X736.baloadBooleans hx (j := (4 : Int32)) (v := (.int v4)) (by rw [e736]; exact Ar740.1) (State.isArrayOf_alike hZ.alike Ar740.2.1) Ar740.2.2 hi741 (H740.at hi741 rfl) (g := (mkF m 66 #[.val (.ref a), .val (.ref b567), .val (.int (own_nf5 v0 v1 v2 v3 v4)), .val (.int (own_nf4 v0 v1 v2 v3)), .val (.int (own_nt5_4 v0 v1 v2 v3 v4)), .val (.int (4 : Int32))] [(.int (4 : Int32)), (.ref b), (.ref b567)])) rfl rfl (hb hby d3_66) _ ?_
    show Steps p.tables e below (T736.setTop (mkF m 67 #[.val (.ref a), .val (.ref b567), .val (.int (own_nf5 v0 v1 v2 v3 v4)), .val (.int (own_nf4 v0 v1 v2 v3)), .val (.int (own_nt5_4 v0 v1 v2 v3 v4)), .val (.int (4 : Int32))] [(.int v4), (.ref b567)])) _
    exact kq)
  obtain ⟨x4, y4, z4, hG743, G743⟩ : ∃ (x4 : Int32) (y4 : Int32) (z4 : Int32), (x4 = (own_ix5_4 v0 v1 v2 v3 v4) ∧ y4 = (own_nf5 v0 v1 v2 v3 v4) ∧ z4 = (own_nt5_5 v0 v1 v2 v3 v4)) ∧ Go p e below A0 (T736.setTop (mkF m 82 #[.val (.ref a), .val (.ref b567), .val (.int (own_nf5 v0 v1 v2 v3 v4)), .val (.int y4), .val (.int z4), .val (.int (4 : Int32))] [(.int x4), (.ref b567)])) := by
    by_cases hc744 : v4 = (0 : Int32)
    · have G745 : Go p e below A0 (T736.setTop (mkF m 82 #[.val (.ref a), .val (.ref b567), .val (.int (own_nf5 v0 v1 v2 v3 v4)), .val (.int ((own_nf4 v0 v1 v2 v3) + (1 : Int32))), .val (.int (own_nt5_4 v0 v1 v2 v3 v4)), .val (.int (4 : Int32))] [(.int (own_nf4 v0 v1 v2 v3)), (.ref b567)])) := fun tq kq => G742 tq (by
        refine XS.ifYes X736.here hx rfl (pc0 := 67) (pc' := 78) rfl (hb hby d3_67) rfl ((if0 _ _).trans (teq hc744).1) (by decide) (by decide) ?_
        show Steps p.tables e below (T736.setTop (mkF m 78 #[.val (.ref a), .val (.ref b567), .val (.int (own_nf5 v0 v1 v2 v3 v4)), .val (.int (own_nf4 v0 v1 v2 v3)), .val (.int (own_nt5_4 v0 v1 v2 v3 v4)), .val (.int (4 : Int32))] [(.ref b567)])) _
        refine XS.iloadN X736.here hx rfl (hb hby d3_78) rfl ?_
        show Steps p.tables e below (T736.setTop (mkF m 79 #[.val (.ref a), .val (.ref b567), .val (.int (own_nf5 v0 v1 v2 v3 v4)), .val (.int (own_nf4 v0 v1 v2 v3)), .val (.int (own_nt5_4 v0 v1 v2 v3 v4)), .val (.int (4 : Int32))] [(.int (own_nf4 v0 v1 v2 v3)), (.ref b567)])) _
        refine XS.iinc X736.here hx rfl (hb hby d3_79) rfl (l' := #[.val (.ref a), .val (.ref b567), .val (.int (own_nf5 v0 v1 v2 v3 v4)), .val (.int ((own_nf4 v0 v1 v2 v3) + (1 : Int32))), .val (.int (own_nt5_4 v0 v1 v2 v3 v4)), .val (.int (4 : Int32))]) rfl ?_
        show Steps p.tables e below (T736.setTop (mkF m 82 #[.val (.ref a), .val (.ref b567), .val (.int (own_nf5 v0 v1 v2 v3 v4)), .val (.int ((own_nf4 v0 v1 v2 v3) + (1 : Int32))), .val (.int (own_nt5_4 v0 v1 v2 v3 v4)), .val (.int (4 : Int32))] [(.int (own_nf4 v0 v1 v2 v3)), (.ref b567)])) _
        exact kq)
      exact ⟨(own_nf4 v0 v1 v2 v3), ((own_nf4 v0 v1 v2 v3) + (1 : Int32)), (own_nt5_4 v0 v1 v2 v3 v4), (by exact ⟨(if_pos hc744).symm, (congrArg (fun q => (own_nf4 v0 v1 v2 v3) + q) (own_bt hc744)).symm, ((congrArg (fun q => (own_nt5_4 v0 v1 v2 v3 v4) + q) (own_b0 (fun q => q hc744))).trans (Int32.add_zero _)).symm⟩), G745⟩
    · have G746 : Go p e below A0 (T736.setTop (mkF m 82 #[.val (.ref a), .val (.ref b567), .val (.int (own_nf5 v0 v1 v2 v3 v4)), .val (.int (own_nf4 v0 v1 v2 v3)), .val (.int ((own_nt5_4 v0 v1 v2 v3 v4) + (1 : Int32))), .val (.int (4 : Int32))] [(.int (own_nt5_4 v0 v1 v2 v3 v4)), (.ref b567)])) := fun tq kq => G742 tq (by
        refine XS.ifNo X736.here hx rfl (hb hby d3_67) rfl ((if0 _ _).trans (feq hc744).1) ?_
        show Steps p.tables e below (T736.setTop (mkF m 70 #[.val (.ref a), .val (.ref b567), .val (.int (own_nf5 v0 v1 v2 v3 v4)), .val (.int (own_nf4 v0 v1 v2 v3)), .val (.int (own_nt5_4 v0 v1 v2 v3 v4)), .val (.int (4 : Int32))] [(.ref b567)])) _
        refine XS.iload X736.here hx rfl (hb hby d3_70) rfl ?_
        show Steps p.tables e below (T736.setTop (mkF m 72 #[.val (.ref a), .val (.ref b567), .val (.int (own_nf5 v0 v1 v2 v3 v4)), .val (.int (own_nf4 v0 v1 v2 v3)), .val (.int (own_nt5_4 v0 v1 v2 v3 v4)), .val (.int (4 : Int32))] [(.int (own_nt5_4 v0 v1 v2 v3 v4)), (.ref b567)])) _
        refine XS.iinc X736.here hx rfl (hb hby d3_72) rfl (l' := #[.val (.ref a), .val (.ref b567), .val (.int (own_nf5 v0 v1 v2 v3 v4)), .val (.int (own_nf4 v0 v1 v2 v3)), .val (.int ((own_nt5_4 v0 v1 v2 v3 v4) + (1 : Int32))), .val (.int (4 : Int32))]) rfl ?_
        show Steps p.tables e below (T736.setTop (mkF m 75 #[.val (.ref a), .val (.ref b567), .val (.int (own_nf5 v0 v1 v2 v3 v4)), .val (.int (own_nf4 v0 v1 v2 v3)), .val (.int ((own_nt5_4 v0 v1 v2 v3 v4) + (1 : Int32))), .val (.int (4 : Int32))] [(.int (own_nt5_4 v0 v1 v2 v3 v4)), (.ref b567)])) _
        refine XS.goto X736.here hx rfl (pc0 := 75) (pc' := 82) rfl (hb hby d3_75) (by decide) (by decide) ?_
        show Steps p.tables e below (T736.setTop (mkF m 82 #[.val (.ref a), .val (.ref b567), .val (.int (own_nf5 v0 v1 v2 v3 v4)), .val (.int (own_nf4 v0 v1 v2 v3)), .val (.int ((own_nt5_4 v0 v1 v2 v3 v4) + (1 : Int32))), .val (.int (4 : Int32))] [(.int (own_nt5_4 v0 v1 v2 v3 v4)), (.ref b567)])) _
        exact kq)
      exact ⟨(own_nt5_4 v0 v1 v2 v3 v4), (own_nf4 v0 v1 v2 v3), ((own_nt5_4 v0 v1 v2 v3 v4) + (1 : Int32)), (by exact ⟨(if_neg hc744).symm, ((congrArg (fun q => (own_nf4 v0 v1 v2 v3) + q) (own_b0 hc744)).trans (Int32.add_zero _)).symm, (congrArg (fun q => (own_nt5_4 v0 v1 v2 v3 v4) + q) (own_bt hc744)).symm⟩), G746⟩
  obtain ⟨rfl, rfl, rfl⟩ := hG743
  have G747 : Go p e below A0 (T736.setTop (mkF m 84 #[.val (.ref a), .val (.ref b567), .val (.int (own_nf5 v0 v1 v2 v3 v4)), .val (.int (own_nf5 v0 v1 v2 v3 v4)), .val (.int (own_nt5_5 v0 v1 v2 v3 v4)), .val (.int (4 : Int32))] [(.int (4 : Int32)), (.int (own_ix5_4 v0 v1 v2 v3 v4)), (.ref b567)])) := fun tq kq => G743 tq (by
    refine XS.iload X736.here hx rfl (hb hby d3_82) rfl ?_
    show Steps p.tables e below (T736.setTop (mkF m 84 #[.val (.ref a), .val (.ref b567), .val (.int (own_nf5 v0 v1 v2 v3 v4)), .val (.int (own_nf5 v0 v1 v2 v3 v4)), .val (.int (own_nt5_5 v0 v1 v2 v3 v4)), .val (.int (4 : Int32))] [(.int (4 : Int32)), (.int (own_ix5_4 v0 v1 v2 v3 v4)), (.ref b567)])) _
    exact kq)
  obtain ⟨cl748, Ar748, q748, S748, M748, H748⟩ := id V728'
  have hi749 : ¬ ((own_ix5_4 v0 v1 v2 v3 v4) < 0 ∨ cl748.slots.size ≤ ((own_ix5_4 v0 v1 v2 v3 v4)).toNatClampNeg) := (inb_of S748 (own_idx_5_4 v0 v1 v2 v3 v4 hb0 hb1 hb2 hb3 hb4))
  obtain ⟨T750, h750, X750, e750, W750, st750⟩ := stI X736 hx hZ e736 Ar748 (j := (own_ix5_4 v0 v1 v2 v3 v4)) hi749 (g := (mkF m 84 #[.val (.ref a), .val (.ref b567), .val (.int (own_nf5 v0 v1 v2 v3 v4)), .val (.int (own_nf5 v0 v1 v2 v3 v4)), .val (.int (own_nt5_5 v0 v1 v2 v3 v4)), .val (.int (4 : Int32))] [(.int (4 : Int32)), (.int (own_ix5_4 v0 v1 v2 v3 v4)), (.ref b567)])) rfl rfl (hb hby d3_84)
  have N750 := Fr.snoc X750 N728 g_b567
  have V750 : Af Z h750 b567 k567 .int (5 : Int32) (fun i => if i = ((own_ix5_4 v0 v1 v2 v3 v4)).toNatClampNeg then (.int (4 : Int32)) else ((own_g5_4 v0 v1 v2 v3 v4)) i) := Af.set Ar748 q748 S748 M748 H748 W750 hi749
  have V750' : Af Z h750 b567 k567 .int (5 : Int32) (own_g5_5 v0 v1 v2 v3 v4) := V750.fn (fun _ _ => rfl)
  have G751 : Go p e below A0 (T750.setTop (mkF m 85 #[.val (.ref a), .val (.ref b567), .val (.int (own_nf5 v0 v1 v2 v3 v4)), .val (.int (own_nf5 v0 v1 v2 v3 v4)), .val (.int (own_nt5_5 v0 v1 v2 v3 v4)), .val (.int (4 : Int32))] [])) := fun tq kq => G747 tq (st750 _ kq)
  have G752 : Go p e below A0 (T750.setTop (mkF m 53 #[.val (.ref a), .val (.ref b567), .val (.int (own_nf5 v0 v1 v2 v3 v4)), .val (.int (own_nf5 v0 v1 v2 v3 v4)), .val (.int (own_nt5_5 v0 v1 v2 v3 v4)), .val (.int (5 : Int32))] [(.ref a), (.int (5 : Int32))])) := fun tq kq => G751 tq (by
    refine XS.iinc X750.here hx rfl (hb hby d3_85) rfl (l' := #[.val (.ref a), .val (.ref b567), .val (.int (own_nf5 v0 v1 v2 v3 v4)), .val (.int (own_nf5 v0 v1 v2 v3 v4)), .val (.int (own_nt5_5 v0 v1 v2 v3 v4)), .val (.int ((4 : Int32) + (1 : Int32)))]) rfl ?_
    show Steps p.tables e below (T750.setTop (mkF m 88 #[.val (.ref a), .val (.ref b567), .val (.int (own_nf5 v0 v1 v2 v3 v4)), .val (.int (own_nf5 v0 v1 v2 v3 v4)), .val (.int (own_nt5_5 v0 v1 v2 v3 v4)), .val (.int ((4 : Int32) + (1 : Int32)))] [])) _
    rw [show ((4 : Int32) + (1 : Int32)) = (5 : Int32) from (by decide : ((4 : Int32) + (1 : Int32)) = (5 : Int32))]
    show Steps p.tables e below (T750.setTop (mkF m 88 #[.val (.ref a), .val (.ref b567), .val (.int (own_nf5 v0 v1 v2 v3 v4)), .val (.int (own_nf5 v0 v1 v2 v3 v4)), .val (.int (own_nt5_5 v0 v1 v2 v3 v4)), .val (.int (5 : Int32))] [])) _
    refine XS.goto X750.here hx rfl (pc0 := 88) (pc' := 50) rfl (hb hby d3_88) (by decide) (by decide) ?_
    show Steps p.tables e below (T750.setTop (mkF m 50 #[.val (.ref a), .val (.ref b567), .val (.int (own_nf5 v0 v1 v2 v3 v4)), .val (.int (own_nf5 v0 v1 v2 v3 v4)), .val (.int (own_nt5_5 v0 v1 v2 v3 v4)), .val (.int (5 : Int32))] [])) _
    refine XS.iload X750.here hx rfl (hb hby d3_50) rfl ?_
    show Steps p.tables e below (T750.setTop (mkF m 52 #[.val (.ref a), .val (.ref b567), .val (.int (own_nf5 v0 v1 v2 v3 v4)), .val (.int (own_nf5 v0 v1 v2 v3 v4)), .val (.int (own_nt5_5 v0 v1 v2 v3 v4)), .val (.int (5 : Int32))] [(.int (5 : Int32))])) _
    refine XS.aloadN X750.here hx rfl (hb hby d3_52) rfl rfl ?_
    show Steps p.tables e below (T750.setTop (mkF m 53 #[.val (.ref a), .val (.ref b567), .val (.int (own_nf5 v0 v1 v2 v3 v4)), .val (.int (own_nf5 v0 v1 v2 v3 v4)), .val (.int (own_nt5_5 v0 v1 v2 v3 v4)), .val (.int (5 : Int32))] [(.ref a), (.int (5 : Int32))])) _
    exact kq)
  have f753 := (f731.other W750 (Or.inl ne_a_b567))
  obtain ⟨T754, X754, e754, st754⟩ := getF X750 hx hZ hown (host := "") (Or.inl (hw _ (List.mem_of_getElem? (i := 28) rfl))) Via.refl e750 f753 (g := (mkF m 53 #[.val (.ref a), .val (.ref b567), .val (.int (own_nf5 v0 v1 v2 v3 v4)), .val (.int (own_nf5 v0 v1 v2 v3 v4)), .val (.int (own_nt5_5 v0 v1 v2 v3 v4)), .val (.int (5 : Int32))] [(.ref a), (.int (5 : Int32))])) rfl rfl (hb hby d3_53)
  have G755 : Go p e below A0 (T754.setTop (mkF m 56 #[.val (.ref a), .val (.ref b567), .val (.int (own_nf5 v0 v1 v2 v3 v4)), .val (.int (own_nf5 v0 v1 v2 v3 v4)), .val (.int (own_nt5_5 v0 v1 v2 v3 v4)), .val (.int (5 : Int32))] [(.int (5 : Int32)), (.int (5 : Int32))])) := fun tq kq => G752 tq (st754 _ kq)
  have G756 : Go p e below A0 (T754.setTop (mkF m 92 #[.val (.ref a), .val (.ref b567), .val (.int (own_nf5 v0 v1 v2 v3 v4)), .val (.int (own_nf5 v0 v1 v2 v3 v4)), .val (.int (own_nt5_5 v0 v1 v2 v3 v4)), .val (.int (5 : Int32))] [(.ref b567)])) := fun tq kq => G755 tq (by
    refine XS.icmpYes X754.here hx rfl (pc0 := 56) (pc' := 91) rfl (hb hby d3_56) rfl (by decide) (by decide) (by decide) ?_
    show Steps p.tables e below (T754.setTop (mkF m 91 #[.val (.ref a), .val (.ref b567), .val (.int (own_nf5 v0 v1 v2 v3 v4)), .val (.int (own_nf5 v0 v1 v2 v3 v4)), .val (.int (own_nt5_5 v0 v1 v2 v3 v4)), .val (.int (5 : Int32))] [])) _
    refine XS.aloadN X754.here hx rfl (hb hby d3_91) rfl rfl ?_
    show Steps p.tables e below (T754.setTop (mkF m 92 #[.val (.ref a), .val (.ref b567), .val (.int (own_nf5 v0 v1 v2 v3 v4)), .val (.int (own_nf5 v0 v1 v2 v3 v4)), .val (.int (own_nt5_5 v0 v1 v2 v3 v4)), .val (.int (5 : Int32))] [(.ref b567)])) _
    exact kq)
  obtain ⟨fs, hr, hrun, hended, hW, hsame⟩ := X754.leave (v := some (.ref b567)) (fun h => by rw [Bd.returns] at h; cases h)
  refine ⟨_, _, (by rw [← hA0]; exact G756 _ (retOut X754 hx (t := (.array .int)) Bd.returns rfl (Or.inr (Or.inr (Or.inr (Or.inr ⟨rfl, rfl, rfl⟩)))) (hb hby d3_92) hr)), hrun, hended, _, _, rfl, ?_, ⟨_, rfl⟩, hW, hsame.mono (by decide) (by decide)⟩
  show Qo5 Z v0 v1 v2 v3 v4 h0 n0 _ T754.heap _
  rw [e754]
  exact ⟨_, _, rfl, N750, (((((((Keep.refl h0 []).ext E567).wr W662 (Or.inr sz_b567)).wr W684 (Or.inr sz_b567)).wr W706 (Or.inr sz_b567)).wr W728 (Or.inr sz_b567)).wr W750 (Or.inr sz_b567)), V750'⟩
set_option maxRecDepth 65536 in
set_option maxHeartbeats 40000000 in
theorem rm4 (l : Launch) (Z : State) (a0 : Array Value) (hw : ∀ d ∈ tables_1, d.before a0 Z = true) (ws : List Jvm.Cond) (b : Addr) (p1 p2 p3 : Int32) (kb : ClassId) (g : Nat → Value) (h0 : Heap) (n0 : Nat) (Z0 : n0 ≤ h0.size) (A : Af Z h0 b kb .int p1 g) (h3 : p2 < p1 → ¬ p3 < (0 : Int32) ∧ p3 < p1 ∧ g p3.toNatClampNeg = .int p2) :
    MetFree l (⟨"com/example/tube2/tube2/trace/BooleanSignalOrderPinLaw", "check", "([IIII)Z"⟩ : MethodName) (head1 (Jvm.Cond.code (⟨"com/example/tube2/tube2/trace/BooleanSignalOrderPinLaw", "check", "([IIII)Z"⟩ : MethodName) method_3_code 4 (some .boolean) :: ws) ({ frames := 0, cells := 0, slots := 0, locals := 0 } : Room)) (fun aa UU => aa = #[(.ref b), (.int p1), (.int p2), (.int p3)] ∧ Z.Warmed39 UU.vm ∧ UU.heap = h0) (fun _ _ _ _ _ => True) (fun _ UU oo U' => ∃ v L, oo = .returned v ∧ Qr (.int 1) h0 n0 v U'.heap L ∧ FrameEnd UU oo U' L ({ frames := 0, cells := 0, slots := 0, locals := 0 } : Room).cells ({ frames := 0, cells := 0, slots := 0, locals := 0 } : Room).slots) := by
  refine MetFree.of_bodySF (plainFor_of_name pn_1) hisR ?_
  intro p e s m args below meth c s₁ Bd hml0 hP hK
  obtain ⟨rfl, hZ, hh⟩ := hP
  have hx := Bd.exec
  have hby := Bd.bytes
  have hml : c.maxLocals = 4 := hml0
  have hown : s.vm.findClass "com/example/tube2/tube2/trace/BooleanSignalOrderPinLaw" = some m.cls := findClass_of_methodNamed Bd.named
  have hnm := (name_of_methodNamed Bd.named Bd.method).1
  have X0 : Stand p l e ({ frames := 0, cells := 0, slots := 0, locals := 0 } : Room) s m #[(.ref b), (.int p1), (.int p2), (.int p3)] below meth c s₁ [] 0 0 := Stand.of_body Bd
  have e0 : s₁.heap = h0 := by rw [← hh, Bd.state]; rfl
  have N0 := Fr.nil n0
  obtain ⟨A0, hA0⟩ : ∃ A, A = s₁.setTop (entryFrame m #[(.ref b), (.int p1), (.int p2), (.int p3)] 4) := ⟨_, rfl⟩
  have G0 : Go p e below A0 (s₁.setTop (mkF m 0 #[.val (.ref b), .val (.int p1), .val (.int p2), .val (.int p3)] [])) := fun tq kq => by rw [hA0]; exact castTop (ef_rm4 m b p1 p2 p3) kq
  have G757 : Go p e below A0 (s₁.setTop (mkF m 2 #[.val (.ref b), .val (.int p1), .val (.int p2), .val (.int p3)] [(.int p1), (.int p2)])) := fun tq kq => G0 tq (by
    refine XS.iloadN X0.here hx rfl (hb hby d4_0) rfl ?_
    show Steps p.tables e below (s₁.setTop (mkF m 1 #[.val (.ref b), .val (.int p1), .val (.int p2), .val (.int p3)] [(.int p2)])) _
    refine XS.iloadN X0.here hx rfl (hb hby d4_1) rfl ?_
    show Steps p.tables e below (s₁.setTop (mkF m 2 #[.val (.ref b), .val (.int p1), .val (.int p2), .val (.int p3)] [(.int p1), (.int p2)])) _
    exact kq)
  by_cases hc758 : p2 < p1
  · have G759 : Go p e below A0 (s₁.setTop (mkF m 7 #[.val (.ref b), .val (.int p1), .val (.int p2), .val (.int p3)] [])) := fun tq kq => G757 tq (by
      refine XS.icmpYes X0.here hx rfl (pc0 := 2) (pc' := 7) rfl (hb hby d4_2) rfl (tlt hc758).1 (by decide) (by decide) ?_
      show Steps p.tables e below (s₁.setTop (mkF m 7 #[.val (.ref b), .val (.int p1), .val (.int p2), .val (.int p3)] [])) _
      exact kq)
    have h3x := h3 hc758
    have G760 : Go p e below A0 (s₁.setTop (mkF m 18 #[.val (.ref b), .val (.int p1), .val (.int p2), .val (.int p3)] [(.int p3), (.ref b)])) := fun tq kq => G759 tq (by
      refine XS.iloadN X0.here hx rfl (hb hby d4_7) rfl ?_
      show Steps p.tables e below (s₁.setTop (mkF m 8 #[.val (.ref b), .val (.int p1), .val (.int p2), .val (.int p3)] [(.int p3)])) _
      refine XS.ifNo X0.here hx rfl (hb hby d4_8) rfl ((if0 _ _).trans (flt h3x.1).1) ?_
      show Steps p.tables e below (s₁.setTop (mkF m 11 #[.val (.ref b), .val (.int p1), .val (.int p2), .val (.int p3)] [])) _
      refine XS.iloadN X0.here hx rfl (hb hby d4_11) rfl ?_
      show Steps p.tables e below (s₁.setTop (mkF m 12 #[.val (.ref b), .val (.int p1), .val (.int p2), .val (.int p3)] [(.int p3)])) _
      refine XS.iloadN X0.here hx rfl (hb hby d4_12) rfl ?_
      show Steps p.tables e below (s₁.setTop (mkF m 13 #[.val (.ref b), .val (.int p1), .val (.int p2), .val (.int p3)] [(.int p1), (.int p3)])) _
      refine XS.icmpNo X0.here hx rfl (hb hby d4_13) rfl (tlt h3x.2.1).2.1 ?_
      show Steps p.tables e below (s₁.setTop (mkF m 16 #[.val (.ref b), .val (.int p1), .val (.int p2), .val (.int p3)] [])) _
      refine XS.aloadN X0.here hx rfl (hb hby d4_16) rfl rfl ?_
      show Steps p.tables e below (s₁.setTop (mkF m 17 #[.val (.ref b), .val (.int p1), .val (.int p2), .val (.int p3)] [(.ref b)])) _
      refine XS.iloadN X0.here hx rfl (hb hby d4_17) rfl ?_
      show Steps p.tables e below (s₁.setTop (mkF m 18 #[.val (.ref b), .val (.int p1), .val (.int p2), .val (.int p3)] [(.int p3), (.ref b)])) _
      exact kq)
    obtain ⟨cl761, Ar761, q761, S761, M761, H761⟩ := id A
    have hi762 : ¬ (p3 < 0 ∨ cl761.slots.size ≤ (p3).toNatClampNeg) := (inb_of S761 ⟨h3x.1, h3x.2.1⟩)
    have G763 : Go p e below A0 (s₁.setTop (mkF m 28 #[.val (.ref b), .val (.int p1), .val (.int p2), .val (.int p3)] [(.int (1 : Int32))])) := fun tq kq => G760 tq (by
      refine X0.iaload hx (j := p3) (v := (.int p2)) (by rw [e0]; exact Ar761.1) (State.isArrayOf_alike hZ.alike Ar761.2.1) Ar761.2.2 hi762 ((H761 _ (S761 ▸ Nat.lt_of_not_le fun y => hi762 (Or.inr y))).trans (congrArg some h3x.2.2)) (g := (mkF m 18 #[.val (.ref b), .val (.int p1), .val (.int p2), .val (.int p3)] [(.int p3), (.ref b)])) rfl rfl (hb hby d4_18) _ ?_
      show Steps p.tables e below (s₁.setTop (mkF m 19 #[.val (.ref b), .val (.int p1), .val (.int p2), .val (.int p3)] [(.int p2)])) _
      refine XS.iloadN X0.here hx rfl (hb hby d4_19) rfl ?_
      show Steps p.tables e below (s₁.setTop (mkF m 20 #[.val (.ref b), .val (.int p1), .val (.int p2), .val (.int p3)] [(.int p2), (.int p2)])) _
      refine XS.icmpNo X0.here hx rfl (hb hby d4_20) rfl (teq (rfl : p2 = p2)).2 ?_
      show Steps p.tables e below (s₁.setTop (mkF m 23 #[.val (.ref b), .val (.int p1), .val (.int p2), .val (.int p3)] [])) _
      refine XS.iconst X0.here hx rfl (hb hby d4_23) ?_
      show Steps p.tables e below (s₁.setTop (mkF m 24 #[.val (.ref b), .val (.int p1), .val (.int p2), .val (.int p3)] [(.int (1 : Int32))])) _
      refine XS.goto X0.here hx rfl (pc0 := 24) (pc' := 28) rfl (hb hby d4_24) (by decide) (by decide) ?_
      show Steps p.tables e below (s₁.setTop (mkF m 28 #[.val (.ref b), .val (.int p1), .val (.int p2), .val (.int p3)] [(.int (1 : Int32))])) _
      exact kq)
    obtain ⟨fs, hr, hrun, hended, hW, hsame⟩ := X0.leave (v := some (.int (nar .boolean (1 : Int32)))) (fun h => by rw [Bd.returns] at h; cases h)
    refine ⟨_, _, (by rw [← hA0]; exact G763 _ (retN X0 hx (t := .boolean) Bd.returns (by simp) (hb hby d4_28) hr)), hrun, hended, _, _, rfl, ?_, ⟨_, rfl⟩, hW, hsame.mono (by decide) (by decide)⟩
    exact ⟨rfl, N0, e0⟩
  · have G764 : Go p e below A0 (s₁.setTop (mkF m 6 #[.val (.ref b), .val (.int p1), .val (.int p2), .val (.int p3)] [(.int (1 : Int32))])) := fun tq kq => G757 tq (by
      refine XS.icmpNo X0.here hx rfl (hb hby d4_2) rfl (flt hc758).1 ?_
      show Steps p.tables e below (s₁.setTop (mkF m 5 #[.val (.ref b), .val (.int p1), .val (.int p2), .val (.int p3)] [])) _
      refine XS.iconst X0.here hx rfl (hb hby d4_5) ?_
      show Steps p.tables e below (s₁.setTop (mkF m 6 #[.val (.ref b), .val (.int p1), .val (.int p2), .val (.int p3)] [(.int (1 : Int32))])) _
      exact kq)
    obtain ⟨fs, hr, hrun, hended, hW, hsame⟩ := X0.leave (v := some (.int (nar .boolean (1 : Int32)))) (fun h => by rw [Bd.returns] at h; cases h)
    refine ⟨_, _, (by rw [← hA0]; exact G764 _ (retN X0 hx (t := .boolean) Bd.returns (by simp) (hb hby d4_6) hr)), hrun, hended, _, _, rfl, ?_, ⟨_, rfl⟩, hW, hsame.mono (by decide) (by decide)⟩
    exact ⟨rfl, N0, e0⟩
def Q0c (n0 : Nat) (v : Option Value) (L : List Loc) : Prop := v = some (.int 1) ∧ Fr n0 L
set_option maxRecDepth 65536 in
set_option maxHeartbeats 40000000 in
theorem rm0 (l : Launch) (Z : State) (a0 : Array Value) (hw : ∀ d ∈ tables_1, d.before a0 Z = true) (ws : List Jvm.Cond) (p0 p1 : Int32) (h0 : Heap) (n0 : Nat) (Z0 : n0 ≤ h0.size) :
    MetFree l x (head1 (Jvm.Cond.code x code maxLocals ret :: ws) room_1) (fun aa UU => aa = #[(.int p0), (.int p1)] ∧ Z.Warmed39 UU.vm ∧ UU.heap = h0) (fun _ _ _ _ _ => True) (fun _ UU oo U' => ∃ v L, oo = .returned v ∧ Q0c n0 v L ∧ ReturnedEndW UU oo U' L room_1.cells room_1.slots) := by
  refine MetFree.of_bodySF (plainFor_of_name pn_1) hisR ?_
  intro p e s m args below meth c s₁ Bd hml0 hP hK
  obtain ⟨rfl, hZ, hh⟩ := hP
  have hx := Bd.exec
  have hby := Bd.bytes
  have hml : c.maxLocals = 25 := hml0
  have hown : s.vm.findClass "com/example/tube2/tube2/trace/BooleanSignalOrderPinLaw" = some m.cls := findClass_of_methodNamed Bd.named
  have hnm := (name_of_methodNamed Bd.named Bd.method).1
  have X0 : Stand p l e room_1 s m #[(.int p0), (.int p1)] below meth c s₁ [] 0 0 := Stand.of_body Bd
  have e0 : s₁.heap = h0 := by rw [← hh, Bd.state]; rfl
  have N0 := Fr.nil n0
  obtain ⟨A0, hA0⟩ : ∃ A, A = s₁.setTop (entryFrame m #[(.int p0), (.int p1)] maxLocals) := ⟨_, rfl⟩
  have G0 : Go p e below A0 (s₁.setTop (mkF m 0 #[.val (.int p0), .val (.int p1), .unset, .unset, .unset, .unset, .unset, .unset, .unset, .unset, .unset, .unset, .unset, .unset, .unset, .unset, .unset, .unset, .unset, .unset, .unset, .unset, .unset, .unset, .unset] [])) := fun tq kq => by rw [hA0]; exact castTop (ef_rm0 m p0 p1) kq
  have hS : s.Since s.vm 0 := (State.WarmedH.refl s).since 0
  have hstr : ∀ d ∈ Bundle.stringAtoms, d.before a0 Z = true := fun d hd => hw d ((by decide +kernel : ∀ d ∈ Bundle.stringAtoms, d ∈ tables_1) d hd)
  have G765 : Go p e below A0 (s₁.setTop (mkF m 8 #[.val (.int p0), .val (.int p1), .val (.int ((p0 &&& (2147483647 : Int32)) % (6 : Int32))), .unset, .unset, .unset, .unset, .unset, .unset, .unset, .unset, .unset, .unset, .unset, .unset, .unset, .unset, .unset, .unset, .unset, .unset, .unset, .unset, .unset, .unset] [])) := fun tq kq => G0 tq (by
    refine XS.iloadN X0.here hx rfl (hb hby at_0) rfl ?_
    show Steps p.tables e below (s₁.setTop (mkF m 1 #[.val (.int p0), .val (.int p1), .unset, .unset, .unset, .unset, .unset, .unset, .unset, .unset, .unset, .unset, .unset, .unset, .unset, .unset, .unset, .unset, .unset, .unset, .unset, .unset, .unset, .unset, .unset] [(.int p0)])) _
    refine X0.ldcInt hx hown (mvT hZ (hw _ (List.mem_of_getElem? (i := 0) rfl))) (g := (mkF m 1 #[.val (.int p0), .val (.int p1), .unset, .unset, .unset, .unset, .unset, .unset, .unset, .unset, .unset, .unset, .unset, .unset, .unset, .unset, .unset, .unset, .unset, .unset, .unset, .unset, .unset, .unset, .unset] [(.int p0)])) rfl (hb hby at_1) _ ?_
    show Steps p.tables e below (s₁.setTop (mkF m 3 #[.val (.int p0), .val (.int p1), .unset, .unset, .unset, .unset, .unset, .unset, .unset, .unset, .unset, .unset, .unset, .unset, .unset, .unset, .unset, .unset, .unset, .unset, .unset, .unset, .unset, .unset, .unset] [(.int (2147483647 : Int32)), (.int p0)])) _
    refine XS.iand X0.here hx rfl (hb hby at_3) rfl ?_
    show Steps p.tables e below (s₁.setTop (mkF m 4 #[.val (.int p0), .val (.int p1), .unset, .unset, .unset, .unset, .unset, .unset, .unset, .unset, .unset, .unset, .unset, .unset, .unset, .unset, .unset, .unset, .unset, .unset, .unset, .unset, .unset, .unset, .unset] [(.int (p0 &&& (2147483647 : Int32)))])) _
    refine XS.bipush X0.here hx rfl (hb hby at_4) ?_
    show Steps p.tables e below (s₁.setTop (mkF m 6 #[.val (.int p0), .val (.int p1), .unset, .unset, .unset, .unset, .unset, .unset, .unset, .unset, .unset, .unset, .unset, .unset, .unset, .unset, .unset, .unset, .unset, .unset, .unset, .unset, .unset, .unset, .unset] [(.int (6 : Int32)), (.int (p0 &&& (2147483647 : Int32)))])) _
    refine iremM X0 hx rfl (hb hby at_6) rfl (by decide) ?_
    show Steps p.tables e below (s₁.setTop (mkF m 7 #[.val (.int p0), .val (.int p1), .unset, .unset, .unset, .unset, .unset, .unset, .unset, .unset, .unset, .unset, .unset, .unset, .unset, .unset, .unset, .unset, .unset, .unset, .unset, .unset, .unset, .unset, .unset] [(.int ((p0 &&& (2147483647 : Int32)) % (6 : Int32)))])) _
    refine XS.istoreN X0.here hx rfl (hb hby at_7) rfl (l' := #[.val (.int p0), .val (.int p1), .val (.int ((p0 &&& (2147483647 : Int32)) % (6 : Int32))), .unset, .unset, .unset, .unset, .unset, .unset, .unset, .unset, .unset, .unset, .unset, .unset, .unset, .unset, .unset, .unset, .unset, .unset, .unset, .unset, .unset, .unset]) rfl ?_
    show Steps p.tables e below (s₁.setTop (mkF m 8 #[.val (.int p0), .val (.int p1), .val (.int ((p0 &&& (2147483647 : Int32)) % (6 : Int32))), .unset, .unset, .unset, .unset, .unset, .unset, .unset, .unset, .unset, .unset, .unset, .unset, .unset, .unset, .unset, .unset, .unset, .unset, .unset, .unset, .unset, .unset] [])) _
    exact kq)
  obtain ⟨v0, hG766, G766⟩ : ∃ (v0 : Int32), (v0 = (0 : Int32) ∨ v0 = (1 : Int32)) ∧ Go p e below A0 (s₁.setTop (mkF m 19 #[.val (.int p0), .val (.int p1), .val (.int ((p0 &&& (2147483647 : Int32)) % (6 : Int32))), .unset, .unset, .unset, .unset, .unset, .unset, .unset, .unset, .unset, .unset, .unset, .unset, .unset, .unset, .unset, .unset, .unset, .unset, .unset, .unset, .unset, .unset] [(.int v0)])) := by
    have G767 : Go p e below A0 (s₁.setTop (mkF m 11 #[.val (.int p0), .val (.int p1), .val (.int ((p0 &&& (2147483647 : Int32)) % (6 : Int32))), .unset, .unset, .unset, .unset, .unset, .unset, .unset, .unset, .unset, .unset, .unset, .unset, .unset, .unset, .unset, .unset, .unset, .unset, .unset, .unset, .unset, .unset] [(.int (p1 &&& (1 : Int32)))])) := fun tq kq => G765 tq (by
      refine XS.iloadN X0.here hx rfl (hb hby at_8) rfl ?_
      show Steps p.tables e below (s₁.setTop (mkF m 9 #[.val (.int p0), .val (.int p1), .val (.int ((p0 &&& (2147483647 : Int32)) % (6 : Int32))), .unset, .unset, .unset, .unset, .unset, .unset, .unset, .unset, .unset, .unset, .unset, .unset, .unset, .unset, .unset, .unset, .unset, .unset, .unset, .unset, .unset, .unset] [(.int p1)])) _
      refine XS.iconst X0.here hx rfl (hb hby at_9) ?_
      show Steps p.tables e below (s₁.setTop (mkF m 10 #[.val (.int p0), .val (.int p1), .val (.int ((p0 &&& (2147483647 : Int32)) % (6 : Int32))), .unset, .unset, .unset, .unset, .unset, .unset, .unset, .unset, .unset, .unset, .unset, .unset, .unset, .unset, .unset, .unset, .unset, .unset, .unset, .unset, .unset, .unset] [(.int (1 : Int32)), (.int p1)])) _
      refine XS.iand X0.here hx rfl (hb hby at_10) rfl ?_
      show Steps p.tables e below (s₁.setTop (mkF m 11 #[.val (.int p0), .val (.int p1), .val (.int ((p0 &&& (2147483647 : Int32)) % (6 : Int32))), .unset, .unset, .unset, .unset, .unset, .unset, .unset, .unset, .unset, .unset, .unset, .unset, .unset, .unset, .unset, .unset, .unset, .unset, .unset, .unset, .unset, .unset] [(.int (p1 &&& (1 : Int32)))])) _
      exact kq)
    by_cases hc768 : (p1 &&& (1 : Int32)) = (0 : Int32)
    · have G769 : Go p e below A0 (s₁.setTop (mkF m 19 #[.val (.int p0), .val (.int p1), .val (.int ((p0 &&& (2147483647 : Int32)) % (6 : Int32))), .unset, .unset, .unset, .unset, .unset, .unset, .unset, .unset, .unset, .unset, .unset, .unset, .unset, .unset, .unset, .unset, .unset, .unset, .unset, .unset, .unset, .unset] [(.int (0 : Int32))])) := fun tq kq => G767 tq (by
        refine XS.ifYes X0.here hx rfl (pc0 := 11) (pc' := 18) rfl (hb hby at_11) rfl ((if0 _ _).trans (teq hc768).1) (by decide) (by decide) ?_
        show Steps p.tables e below (s₁.setTop (mkF m 18 #[.val (.int p0), .val (.int p1), .val (.int ((p0 &&& (2147483647 : Int32)) % (6 : Int32))), .unset, .unset, .unset, .unset, .unset, .unset, .unset, .unset, .unset, .unset, .unset, .unset, .unset, .unset, .unset, .unset, .unset, .unset, .unset, .unset, .unset, .unset] [])) _
        refine XS.iconst X0.here hx rfl (hb hby at_18) ?_
        show Steps p.tables e below (s₁.setTop (mkF m 19 #[.val (.int p0), .val (.int p1), .val (.int ((p0 &&& (2147483647 : Int32)) % (6 : Int32))), .unset, .unset, .unset, .unset, .unset, .unset, .unset, .unset, .unset, .unset, .unset, .unset, .unset, .unset, .unset, .unset, .unset, .unset, .unset, .unset, .unset, .unset] [(.int (0 : Int32))])) _
        exact kq)
      exact ⟨(0 : Int32), (by decide), G769⟩
    · have G770 : Go p e below A0 (s₁.setTop (mkF m 19 #[.val (.int p0), .val (.int p1), .val (.int ((p0 &&& (2147483647 : Int32)) % (6 : Int32))), .unset, .unset, .unset, .unset, .unset, .unset, .unset, .unset, .unset, .unset, .unset, .unset, .unset, .unset, .unset, .unset, .unset, .unset, .unset, .unset, .unset, .unset] [(.int (1 : Int32))])) := fun tq kq => G767 tq (by
        refine XS.ifNo X0.here hx rfl (hb hby at_11) rfl ((if0 _ _).trans (feq hc768).1) ?_
        show Steps p.tables e below (s₁.setTop (mkF m 14 #[.val (.int p0), .val (.int p1), .val (.int ((p0 &&& (2147483647 : Int32)) % (6 : Int32))), .unset, .unset, .unset, .unset, .unset, .unset, .unset, .unset, .unset, .unset, .unset, .unset, .unset, .unset, .unset, .unset, .unset, .unset, .unset, .unset, .unset, .unset] [])) _
        refine XS.iconst X0.here hx rfl (hb hby at_14) ?_
        show Steps p.tables e below (s₁.setTop (mkF m 15 #[.val (.int p0), .val (.int p1), .val (.int ((p0 &&& (2147483647 : Int32)) % (6 : Int32))), .unset, .unset, .unset, .unset, .unset, .unset, .unset, .unset, .unset, .unset, .unset, .unset, .unset, .unset, .unset, .unset, .unset, .unset, .unset, .unset, .unset, .unset] [(.int (1 : Int32))])) _
        refine XS.goto X0.here hx rfl (pc0 := 15) (pc' := 19) rfl (hb hby at_15) (by decide) (by decide) ?_
        show Steps p.tables e below (s₁.setTop (mkF m 19 #[.val (.int p0), .val (.int p1), .val (.int ((p0 &&& (2147483647 : Int32)) % (6 : Int32))), .unset, .unset, .unset, .unset, .unset, .unset, .unset, .unset, .unset, .unset, .unset, .unset, .unset, .unset, .unset, .unset, .unset, .unset, .unset, .unset, .unset, .unset] [(.int (1 : Int32))])) _
        exact kq)
      exact ⟨(1 : Int32), (by decide), G770⟩
  have hb0 := hG766
  have G771 : Go p e below A0 (s₁.setTop (mkF m 20 #[.val (.int p0), .val (.int p1), .val (.int ((p0 &&& (2147483647 : Int32)) % (6 : Int32))), .val (.int v0), .unset, .unset, .unset, .unset, .unset, .unset, .unset, .unset, .unset, .unset, .unset, .unset, .unset, .unset, .unset, .unset, .unset, .unset, .unset, .unset, .unset] [])) := fun tq kq => G766 tq (by
    refine XS.istoreN X0.here hx rfl (hb hby at_19) rfl (l' := #[.val (.int p0), .val (.int p1), .val (.int ((p0 &&& (2147483647 : Int32)) % (6 : Int32))), .val (.int v0), .unset, .unset, .unset, .unset, .unset, .unset, .unset, .unset, .unset, .unset, .unset, .unset, .unset, .unset, .unset, .unset, .unset, .unset, .unset, .unset, .unset]) rfl ?_
    show Steps p.tables e below (s₁.setTop (mkF m 20 #[.val (.int p0), .val (.int p1), .val (.int ((p0 &&& (2147483647 : Int32)) % (6 : Int32))), .val (.int v0), .unset, .unset, .unset, .unset, .unset, .unset, .unset, .unset, .unset, .unset, .unset, .unset, .unset, .unset, .unset, .unset, .unset, .unset, .unset, .unset, .unset] [])) _
    exact kq)
  obtain ⟨v1, hG772, G772⟩ : ∃ (v1 : Int32), (v1 = (0 : Int32) ∨ v1 = (1 : Int32)) ∧ Go p e below A0 (s₁.setTop (mkF m 31 #[.val (.int p0), .val (.int p1), .val (.int ((p0 &&& (2147483647 : Int32)) % (6 : Int32))), .val (.int v0), .unset, .unset, .unset, .unset, .unset, .unset, .unset, .unset, .unset, .unset, .unset, .unset, .unset, .unset, .unset, .unset, .unset, .unset, .unset, .unset, .unset] [(.int v1)])) := by
    have G773 : Go p e below A0 (s₁.setTop (mkF m 23 #[.val (.int p0), .val (.int p1), .val (.int ((p0 &&& (2147483647 : Int32)) % (6 : Int32))), .val (.int v0), .unset, .unset, .unset, .unset, .unset, .unset, .unset, .unset, .unset, .unset, .unset, .unset, .unset, .unset, .unset, .unset, .unset, .unset, .unset, .unset, .unset] [(.int (p1 &&& (2 : Int32)))])) := fun tq kq => G771 tq (by
      refine XS.iloadN X0.here hx rfl (hb hby at_20) rfl ?_
      show Steps p.tables e below (s₁.setTop (mkF m 21 #[.val (.int p0), .val (.int p1), .val (.int ((p0 &&& (2147483647 : Int32)) % (6 : Int32))), .val (.int v0), .unset, .unset, .unset, .unset, .unset, .unset, .unset, .unset, .unset, .unset, .unset, .unset, .unset, .unset, .unset, .unset, .unset, .unset, .unset, .unset, .unset] [(.int p1)])) _
      refine XS.iconst X0.here hx rfl (hb hby at_21) ?_
      show Steps p.tables e below (s₁.setTop (mkF m 22 #[.val (.int p0), .val (.int p1), .val (.int ((p0 &&& (2147483647 : Int32)) % (6 : Int32))), .val (.int v0), .unset, .unset, .unset, .unset, .unset, .unset, .unset, .unset, .unset, .unset, .unset, .unset, .unset, .unset, .unset, .unset, .unset, .unset, .unset, .unset, .unset] [(.int (2 : Int32)), (.int p1)])) _
      refine XS.iand X0.here hx rfl (hb hby at_22) rfl ?_
      show Steps p.tables e below (s₁.setTop (mkF m 23 #[.val (.int p0), .val (.int p1), .val (.int ((p0 &&& (2147483647 : Int32)) % (6 : Int32))), .val (.int v0), .unset, .unset, .unset, .unset, .unset, .unset, .unset, .unset, .unset, .unset, .unset, .unset, .unset, .unset, .unset, .unset, .unset, .unset, .unset, .unset, .unset] [(.int (p1 &&& (2 : Int32)))])) _
      exact kq)
    by_cases hc774 : (p1 &&& (2 : Int32)) = (0 : Int32)
    · have G775 : Go p e below A0 (s₁.setTop (mkF m 31 #[.val (.int p0), .val (.int p1), .val (.int ((p0 &&& (2147483647 : Int32)) % (6 : Int32))), .val (.int v0), .unset, .unset, .unset, .unset, .unset, .unset, .unset, .unset, .unset, .unset, .unset, .unset, .unset, .unset, .unset, .unset, .unset, .unset, .unset, .unset, .unset] [(.int (0 : Int32))])) := fun tq kq => G773 tq (by
        refine XS.ifYes X0.here hx rfl (pc0 := 23) (pc' := 30) rfl (hb hby at_23) rfl ((if0 _ _).trans (teq hc774).1) (by decide) (by decide) ?_
        show Steps p.tables e below (s₁.setTop (mkF m 30 #[.val (.int p0), .val (.int p1), .val (.int ((p0 &&& (2147483647 : Int32)) % (6 : Int32))), .val (.int v0), .unset, .unset, .unset, .unset, .unset, .unset, .unset, .unset, .unset, .unset, .unset, .unset, .unset, .unset, .unset, .unset, .unset, .unset, .unset, .unset, .unset] [])) _
        refine XS.iconst X0.here hx rfl (hb hby at_30) ?_
        show Steps p.tables e below (s₁.setTop (mkF m 31 #[.val (.int p0), .val (.int p1), .val (.int ((p0 &&& (2147483647 : Int32)) % (6 : Int32))), .val (.int v0), .unset, .unset, .unset, .unset, .unset, .unset, .unset, .unset, .unset, .unset, .unset, .unset, .unset, .unset, .unset, .unset, .unset, .unset, .unset, .unset, .unset] [(.int (0 : Int32))])) _
        exact kq)
      exact ⟨(0 : Int32), (by decide), G775⟩
    · have G776 : Go p e below A0 (s₁.setTop (mkF m 31 #[.val (.int p0), .val (.int p1), .val (.int ((p0 &&& (2147483647 : Int32)) % (6 : Int32))), .val (.int v0), .unset, .unset, .unset, .unset, .unset, .unset, .unset, .unset, .unset, .unset, .unset, .unset, .unset, .unset, .unset, .unset, .unset, .unset, .unset, .unset, .unset] [(.int (1 : Int32))])) := fun tq kq => G773 tq (by
        refine XS.ifNo X0.here hx rfl (hb hby at_23) rfl ((if0 _ _).trans (feq hc774).1) ?_
        show Steps p.tables e below (s₁.setTop (mkF m 26 #[.val (.int p0), .val (.int p1), .val (.int ((p0 &&& (2147483647 : Int32)) % (6 : Int32))), .val (.int v0), .unset, .unset, .unset, .unset, .unset, .unset, .unset, .unset, .unset, .unset, .unset, .unset, .unset, .unset, .unset, .unset, .unset, .unset, .unset, .unset, .unset] [])) _
        refine XS.iconst X0.here hx rfl (hb hby at_26) ?_
        show Steps p.tables e below (s₁.setTop (mkF m 27 #[.val (.int p0), .val (.int p1), .val (.int ((p0 &&& (2147483647 : Int32)) % (6 : Int32))), .val (.int v0), .unset, .unset, .unset, .unset, .unset, .unset, .unset, .unset, .unset, .unset, .unset, .unset, .unset, .unset, .unset, .unset, .unset, .unset, .unset, .unset, .unset] [(.int (1 : Int32))])) _
        refine XS.goto X0.here hx rfl (pc0 := 27) (pc' := 31) rfl (hb hby at_27) (by decide) (by decide) ?_
        show Steps p.tables e below (s₁.setTop (mkF m 31 #[.val (.int p0), .val (.int p1), .val (.int ((p0 &&& (2147483647 : Int32)) % (6 : Int32))), .val (.int v0), .unset, .unset, .unset, .unset, .unset, .unset, .unset, .unset, .unset, .unset, .unset, .unset, .unset, .unset, .unset, .unset, .unset, .unset, .unset, .unset, .unset] [(.int (1 : Int32))])) _
        exact kq)
      exact ⟨(1 : Int32), (by decide), G776⟩
  have hb1 := hG772
  have G777 : Go p e below A0 (s₁.setTop (mkF m 33 #[.val (.int p0), .val (.int p1), .val (.int ((p0 &&& (2147483647 : Int32)) % (6 : Int32))), .val (.int v0), .val (.int v1), .unset, .unset, .unset, .unset, .unset, .unset, .unset, .unset, .unset, .unset, .unset, .unset, .unset, .unset, .unset, .unset, .unset, .unset, .unset, .unset] [])) := fun tq kq => G772 tq (by
    refine XS.istore X0.here hx rfl (hb hby at_31) rfl (l' := #[.val (.int p0), .val (.int p1), .val (.int ((p0 &&& (2147483647 : Int32)) % (6 : Int32))), .val (.int v0), .val (.int v1), .unset, .unset, .unset, .unset, .unset, .unset, .unset, .unset, .unset, .unset, .unset, .unset, .unset, .unset, .unset, .unset, .unset, .unset, .unset, .unset]) rfl ?_
    show Steps p.tables e below (s₁.setTop (mkF m 33 #[.val (.int p0), .val (.int p1), .val (.int ((p0 &&& (2147483647 : Int32)) % (6 : Int32))), .val (.int v0), .val (.int v1), .unset, .unset, .unset, .unset, .unset, .unset, .unset, .unset, .unset, .unset, .unset, .unset, .unset, .unset, .unset, .unset, .unset, .unset, .unset, .unset] [])) _
    exact kq)
  obtain ⟨v2, hG778, G778⟩ : ∃ (v2 : Int32), (v2 = (0 : Int32) ∨ v2 = (1 : Int32)) ∧ Go p e below A0 (s₁.setTop (mkF m 44 #[.val (.int p0), .val (.int p1), .val (.int ((p0 &&& (2147483647 : Int32)) % (6 : Int32))), .val (.int v0), .val (.int v1), .unset, .unset, .unset, .unset, .unset, .unset, .unset, .unset, .unset, .unset, .unset, .unset, .unset, .unset, .unset, .unset, .unset, .unset, .unset, .unset] [(.int v2)])) := by
    have G779 : Go p e below A0 (s₁.setTop (mkF m 36 #[.val (.int p0), .val (.int p1), .val (.int ((p0 &&& (2147483647 : Int32)) % (6 : Int32))), .val (.int v0), .val (.int v1), .unset, .unset, .unset, .unset, .unset, .unset, .unset, .unset, .unset, .unset, .unset, .unset, .unset, .unset, .unset, .unset, .unset, .unset, .unset, .unset] [(.int (p1 &&& (4 : Int32)))])) := fun tq kq => G777 tq (by
      refine XS.iloadN X0.here hx rfl (hb hby at_33) rfl ?_
      show Steps p.tables e below (s₁.setTop (mkF m 34 #[.val (.int p0), .val (.int p1), .val (.int ((p0 &&& (2147483647 : Int32)) % (6 : Int32))), .val (.int v0), .val (.int v1), .unset, .unset, .unset, .unset, .unset, .unset, .unset, .unset, .unset, .unset, .unset, .unset, .unset, .unset, .unset, .unset, .unset, .unset, .unset, .unset] [(.int p1)])) _
      refine XS.iconst X0.here hx rfl (hb hby at_34) ?_
      show Steps p.tables e below (s₁.setTop (mkF m 35 #[.val (.int p0), .val (.int p1), .val (.int ((p0 &&& (2147483647 : Int32)) % (6 : Int32))), .val (.int v0), .val (.int v1), .unset, .unset, .unset, .unset, .unset, .unset, .unset, .unset, .unset, .unset, .unset, .unset, .unset, .unset, .unset, .unset, .unset, .unset, .unset, .unset] [(.int (4 : Int32)), (.int p1)])) _
      refine XS.iand X0.here hx rfl (hb hby at_35) rfl ?_
      show Steps p.tables e below (s₁.setTop (mkF m 36 #[.val (.int p0), .val (.int p1), .val (.int ((p0 &&& (2147483647 : Int32)) % (6 : Int32))), .val (.int v0), .val (.int v1), .unset, .unset, .unset, .unset, .unset, .unset, .unset, .unset, .unset, .unset, .unset, .unset, .unset, .unset, .unset, .unset, .unset, .unset, .unset, .unset] [(.int (p1 &&& (4 : Int32)))])) _
      exact kq)
    by_cases hc780 : (p1 &&& (4 : Int32)) = (0 : Int32)
    · have G781 : Go p e below A0 (s₁.setTop (mkF m 44 #[.val (.int p0), .val (.int p1), .val (.int ((p0 &&& (2147483647 : Int32)) % (6 : Int32))), .val (.int v0), .val (.int v1), .unset, .unset, .unset, .unset, .unset, .unset, .unset, .unset, .unset, .unset, .unset, .unset, .unset, .unset, .unset, .unset, .unset, .unset, .unset, .unset] [(.int (0 : Int32))])) := fun tq kq => G779 tq (by
        refine XS.ifYes X0.here hx rfl (pc0 := 36) (pc' := 43) rfl (hb hby at_36) rfl ((if0 _ _).trans (teq hc780).1) (by decide) (by decide) ?_
        show Steps p.tables e below (s₁.setTop (mkF m 43 #[.val (.int p0), .val (.int p1), .val (.int ((p0 &&& (2147483647 : Int32)) % (6 : Int32))), .val (.int v0), .val (.int v1), .unset, .unset, .unset, .unset, .unset, .unset, .unset, .unset, .unset, .unset, .unset, .unset, .unset, .unset, .unset, .unset, .unset, .unset, .unset, .unset] [])) _
        refine XS.iconst X0.here hx rfl (hb hby at_43) ?_
        show Steps p.tables e below (s₁.setTop (mkF m 44 #[.val (.int p0), .val (.int p1), .val (.int ((p0 &&& (2147483647 : Int32)) % (6 : Int32))), .val (.int v0), .val (.int v1), .unset, .unset, .unset, .unset, .unset, .unset, .unset, .unset, .unset, .unset, .unset, .unset, .unset, .unset, .unset, .unset, .unset, .unset, .unset, .unset] [(.int (0 : Int32))])) _
        exact kq)
      exact ⟨(0 : Int32), (by decide), G781⟩
    · have G782 : Go p e below A0 (s₁.setTop (mkF m 44 #[.val (.int p0), .val (.int p1), .val (.int ((p0 &&& (2147483647 : Int32)) % (6 : Int32))), .val (.int v0), .val (.int v1), .unset, .unset, .unset, .unset, .unset, .unset, .unset, .unset, .unset, .unset, .unset, .unset, .unset, .unset, .unset, .unset, .unset, .unset, .unset, .unset] [(.int (1 : Int32))])) := fun tq kq => G779 tq (by
        refine XS.ifNo X0.here hx rfl (hb hby at_36) rfl ((if0 _ _).trans (feq hc780).1) ?_
        show Steps p.tables e below (s₁.setTop (mkF m 39 #[.val (.int p0), .val (.int p1), .val (.int ((p0 &&& (2147483647 : Int32)) % (6 : Int32))), .val (.int v0), .val (.int v1), .unset, .unset, .unset, .unset, .unset, .unset, .unset, .unset, .unset, .unset, .unset, .unset, .unset, .unset, .unset, .unset, .unset, .unset, .unset, .unset] [])) _
        refine XS.iconst X0.here hx rfl (hb hby at_39) ?_
        show Steps p.tables e below (s₁.setTop (mkF m 40 #[.val (.int p0), .val (.int p1), .val (.int ((p0 &&& (2147483647 : Int32)) % (6 : Int32))), .val (.int v0), .val (.int v1), .unset, .unset, .unset, .unset, .unset, .unset, .unset, .unset, .unset, .unset, .unset, .unset, .unset, .unset, .unset, .unset, .unset, .unset, .unset, .unset] [(.int (1 : Int32))])) _
        refine XS.goto X0.here hx rfl (pc0 := 40) (pc' := 44) rfl (hb hby at_40) (by decide) (by decide) ?_
        show Steps p.tables e below (s₁.setTop (mkF m 44 #[.val (.int p0), .val (.int p1), .val (.int ((p0 &&& (2147483647 : Int32)) % (6 : Int32))), .val (.int v0), .val (.int v1), .unset, .unset, .unset, .unset, .unset, .unset, .unset, .unset, .unset, .unset, .unset, .unset, .unset, .unset, .unset, .unset, .unset, .unset, .unset, .unset] [(.int (1 : Int32))])) _
        exact kq)
      exact ⟨(1 : Int32), (by decide), G782⟩
  have hb2 := hG778
  have G783 : Go p e below A0 (s₁.setTop (mkF m 46 #[.val (.int p0), .val (.int p1), .val (.int ((p0 &&& (2147483647 : Int32)) % (6 : Int32))), .val (.int v0), .val (.int v1), .val (.int v2), .unset, .unset, .unset, .unset, .unset, .unset, .unset, .unset, .unset, .unset, .unset, .unset, .unset, .unset, .unset, .unset, .unset, .unset, .unset] [])) := fun tq kq => G778 tq (by
    refine XS.istore X0.here hx rfl (hb hby at_44) rfl (l' := #[.val (.int p0), .val (.int p1), .val (.int ((p0 &&& (2147483647 : Int32)) % (6 : Int32))), .val (.int v0), .val (.int v1), .val (.int v2), .unset, .unset, .unset, .unset, .unset, .unset, .unset, .unset, .unset, .unset, .unset, .unset, .unset, .unset, .unset, .unset, .unset, .unset, .unset]) rfl ?_
    show Steps p.tables e below (s₁.setTop (mkF m 46 #[.val (.int p0), .val (.int p1), .val (.int ((p0 &&& (2147483647 : Int32)) % (6 : Int32))), .val (.int v0), .val (.int v1), .val (.int v2), .unset, .unset, .unset, .unset, .unset, .unset, .unset, .unset, .unset, .unset, .unset, .unset, .unset, .unset, .unset, .unset, .unset, .unset, .unset] [])) _
    exact kq)
  obtain ⟨v3, hG784, G784⟩ : ∃ (v3 : Int32), (v3 = (0 : Int32) ∨ v3 = (1 : Int32)) ∧ Go p e below A0 (s₁.setTop (mkF m 58 #[.val (.int p0), .val (.int p1), .val (.int ((p0 &&& (2147483647 : Int32)) % (6 : Int32))), .val (.int v0), .val (.int v1), .val (.int v2), .unset, .unset, .unset, .unset, .unset, .unset, .unset, .unset, .unset, .unset, .unset, .unset, .unset, .unset, .unset, .unset, .unset, .unset, .unset] [(.int v3)])) := by
    have G785 : Go p e below A0 (s₁.setTop (mkF m 50 #[.val (.int p0), .val (.int p1), .val (.int ((p0 &&& (2147483647 : Int32)) % (6 : Int32))), .val (.int v0), .val (.int v1), .val (.int v2), .unset, .unset, .unset, .unset, .unset, .unset, .unset, .unset, .unset, .unset, .unset, .unset, .unset, .unset, .unset, .unset, .unset, .unset, .unset] [(.int (p1 &&& (8 : Int32)))])) := fun tq kq => G783 tq (by
      refine XS.iloadN X0.here hx rfl (hb hby at_46) rfl ?_
      show Steps p.tables e below (s₁.setTop (mkF m 47 #[.val (.int p0), .val (.int p1), .val (.int ((p0 &&& (2147483647 : Int32)) % (6 : Int32))), .val (.int v0), .val (.int v1), .val (.int v2), .unset, .unset, .unset, .unset, .unset, .unset, .unset, .unset, .unset, .unset, .unset, .unset, .unset, .unset, .unset, .unset, .unset, .unset, .unset] [(.int p1)])) _
      refine XS.bipush X0.here hx rfl (hb hby at_47) ?_
      show Steps p.tables e below (s₁.setTop (mkF m 49 #[.val (.int p0), .val (.int p1), .val (.int ((p0 &&& (2147483647 : Int32)) % (6 : Int32))), .val (.int v0), .val (.int v1), .val (.int v2), .unset, .unset, .unset, .unset, .unset, .unset, .unset, .unset, .unset, .unset, .unset, .unset, .unset, .unset, .unset, .unset, .unset, .unset, .unset] [(.int (8 : Int32)), (.int p1)])) _
      refine XS.iand X0.here hx rfl (hb hby at_49) rfl ?_
      show Steps p.tables e below (s₁.setTop (mkF m 50 #[.val (.int p0), .val (.int p1), .val (.int ((p0 &&& (2147483647 : Int32)) % (6 : Int32))), .val (.int v0), .val (.int v1), .val (.int v2), .unset, .unset, .unset, .unset, .unset, .unset, .unset, .unset, .unset, .unset, .unset, .unset, .unset, .unset, .unset, .unset, .unset, .unset, .unset] [(.int (p1 &&& (8 : Int32)))])) _
      exact kq)
    by_cases hc786 : (p1 &&& (8 : Int32)) = (0 : Int32)
    · have G787 : Go p e below A0 (s₁.setTop (mkF m 58 #[.val (.int p0), .val (.int p1), .val (.int ((p0 &&& (2147483647 : Int32)) % (6 : Int32))), .val (.int v0), .val (.int v1), .val (.int v2), .unset, .unset, .unset, .unset, .unset, .unset, .unset, .unset, .unset, .unset, .unset, .unset, .unset, .unset, .unset, .unset, .unset, .unset, .unset] [(.int (0 : Int32))])) := fun tq kq => G785 tq (by
        refine XS.ifYes X0.here hx rfl (pc0 := 50) (pc' := 57) rfl (hb hby at_50) rfl ((if0 _ _).trans (teq hc786).1) (by decide) (by decide) ?_
        show Steps p.tables e below (s₁.setTop (mkF m 57 #[.val (.int p0), .val (.int p1), .val (.int ((p0 &&& (2147483647 : Int32)) % (6 : Int32))), .val (.int v0), .val (.int v1), .val (.int v2), .unset, .unset, .unset, .unset, .unset, .unset, .unset, .unset, .unset, .unset, .unset, .unset, .unset, .unset, .unset, .unset, .unset, .unset, .unset] [])) _
        refine XS.iconst X0.here hx rfl (hb hby at_57) ?_
        show Steps p.tables e below (s₁.setTop (mkF m 58 #[.val (.int p0), .val (.int p1), .val (.int ((p0 &&& (2147483647 : Int32)) % (6 : Int32))), .val (.int v0), .val (.int v1), .val (.int v2), .unset, .unset, .unset, .unset, .unset, .unset, .unset, .unset, .unset, .unset, .unset, .unset, .unset, .unset, .unset, .unset, .unset, .unset, .unset] [(.int (0 : Int32))])) _
        exact kq)
      exact ⟨(0 : Int32), (by decide), G787⟩
    · have G788 : Go p e below A0 (s₁.setTop (mkF m 58 #[.val (.int p0), .val (.int p1), .val (.int ((p0 &&& (2147483647 : Int32)) % (6 : Int32))), .val (.int v0), .val (.int v1), .val (.int v2), .unset, .unset, .unset, .unset, .unset, .unset, .unset, .unset, .unset, .unset, .unset, .unset, .unset, .unset, .unset, .unset, .unset, .unset, .unset] [(.int (1 : Int32))])) := fun tq kq => G785 tq (by
        refine XS.ifNo X0.here hx rfl (hb hby at_50) rfl ((if0 _ _).trans (feq hc786).1) ?_
        show Steps p.tables e below (s₁.setTop (mkF m 53 #[.val (.int p0), .val (.int p1), .val (.int ((p0 &&& (2147483647 : Int32)) % (6 : Int32))), .val (.int v0), .val (.int v1), .val (.int v2), .unset, .unset, .unset, .unset, .unset, .unset, .unset, .unset, .unset, .unset, .unset, .unset, .unset, .unset, .unset, .unset, .unset, .unset, .unset] [])) _
        refine XS.iconst X0.here hx rfl (hb hby at_53) ?_
        show Steps p.tables e below (s₁.setTop (mkF m 54 #[.val (.int p0), .val (.int p1), .val (.int ((p0 &&& (2147483647 : Int32)) % (6 : Int32))), .val (.int v0), .val (.int v1), .val (.int v2), .unset, .unset, .unset, .unset, .unset, .unset, .unset, .unset, .unset, .unset, .unset, .unset, .unset, .unset, .unset, .unset, .unset, .unset, .unset] [(.int (1 : Int32))])) _
        refine XS.goto X0.here hx rfl (pc0 := 54) (pc' := 58) rfl (hb hby at_54) (by decide) (by decide) ?_
        show Steps p.tables e below (s₁.setTop (mkF m 58 #[.val (.int p0), .val (.int p1), .val (.int ((p0 &&& (2147483647 : Int32)) % (6 : Int32))), .val (.int v0), .val (.int v1), .val (.int v2), .unset, .unset, .unset, .unset, .unset, .unset, .unset, .unset, .unset, .unset, .unset, .unset, .unset, .unset, .unset, .unset, .unset, .unset, .unset] [(.int (1 : Int32))])) _
        exact kq)
      exact ⟨(1 : Int32), (by decide), G788⟩
  have hb3 := hG784
  have G789 : Go p e below A0 (s₁.setTop (mkF m 60 #[.val (.int p0), .val (.int p1), .val (.int ((p0 &&& (2147483647 : Int32)) % (6 : Int32))), .val (.int v0), .val (.int v1), .val (.int v2), .val (.int v3), .unset, .unset, .unset, .unset, .unset, .unset, .unset, .unset, .unset, .unset, .unset, .unset, .unset, .unset, .unset, .unset, .unset, .unset] [])) := fun tq kq => G784 tq (by
    refine XS.istore X0.here hx rfl (hb hby at_58) rfl (l' := #[.val (.int p0), .val (.int p1), .val (.int ((p0 &&& (2147483647 : Int32)) % (6 : Int32))), .val (.int v0), .val (.int v1), .val (.int v2), .val (.int v3), .unset, .unset, .unset, .unset, .unset, .unset, .unset, .unset, .unset, .unset, .unset, .unset, .unset, .unset, .unset, .unset, .unset, .unset]) rfl ?_
    show Steps p.tables e below (s₁.setTop (mkF m 60 #[.val (.int p0), .val (.int p1), .val (.int ((p0 &&& (2147483647 : Int32)) % (6 : Int32))), .val (.int v0), .val (.int v1), .val (.int v2), .val (.int v3), .unset, .unset, .unset, .unset, .unset, .unset, .unset, .unset, .unset, .unset, .unset, .unset, .unset, .unset, .unset, .unset, .unset, .unset] [])) _
    exact kq)
  obtain ⟨v4, hG790, G790⟩ : ∃ (v4 : Int32), (v4 = (0 : Int32) ∨ v4 = (1 : Int32)) ∧ Go p e below A0 (s₁.setTop (mkF m 72 #[.val (.int p0), .val (.int p1), .val (.int ((p0 &&& (2147483647 : Int32)) % (6 : Int32))), .val (.int v0), .val (.int v1), .val (.int v2), .val (.int v3), .unset, .unset, .unset, .unset, .unset, .unset, .unset, .unset, .unset, .unset, .unset, .unset, .unset, .unset, .unset, .unset, .unset, .unset] [(.int v4)])) := by
    have G791 : Go p e below A0 (s₁.setTop (mkF m 64 #[.val (.int p0), .val (.int p1), .val (.int ((p0 &&& (2147483647 : Int32)) % (6 : Int32))), .val (.int v0), .val (.int v1), .val (.int v2), .val (.int v3), .unset, .unset, .unset, .unset, .unset, .unset, .unset, .unset, .unset, .unset, .unset, .unset, .unset, .unset, .unset, .unset, .unset, .unset] [(.int (p1 &&& (16 : Int32)))])) := fun tq kq => G789 tq (by
      refine XS.iloadN X0.here hx rfl (hb hby at_60) rfl ?_
      show Steps p.tables e below (s₁.setTop (mkF m 61 #[.val (.int p0), .val (.int p1), .val (.int ((p0 &&& (2147483647 : Int32)) % (6 : Int32))), .val (.int v0), .val (.int v1), .val (.int v2), .val (.int v3), .unset, .unset, .unset, .unset, .unset, .unset, .unset, .unset, .unset, .unset, .unset, .unset, .unset, .unset, .unset, .unset, .unset, .unset] [(.int p1)])) _
      refine XS.bipush X0.here hx rfl (hb hby at_61) ?_
      show Steps p.tables e below (s₁.setTop (mkF m 63 #[.val (.int p0), .val (.int p1), .val (.int ((p0 &&& (2147483647 : Int32)) % (6 : Int32))), .val (.int v0), .val (.int v1), .val (.int v2), .val (.int v3), .unset, .unset, .unset, .unset, .unset, .unset, .unset, .unset, .unset, .unset, .unset, .unset, .unset, .unset, .unset, .unset, .unset, .unset] [(.int (16 : Int32)), (.int p1)])) _
      refine XS.iand X0.here hx rfl (hb hby at_63) rfl ?_
      show Steps p.tables e below (s₁.setTop (mkF m 64 #[.val (.int p0), .val (.int p1), .val (.int ((p0 &&& (2147483647 : Int32)) % (6 : Int32))), .val (.int v0), .val (.int v1), .val (.int v2), .val (.int v3), .unset, .unset, .unset, .unset, .unset, .unset, .unset, .unset, .unset, .unset, .unset, .unset, .unset, .unset, .unset, .unset, .unset, .unset] [(.int (p1 &&& (16 : Int32)))])) _
      exact kq)
    by_cases hc792 : (p1 &&& (16 : Int32)) = (0 : Int32)
    · have G793 : Go p e below A0 (s₁.setTop (mkF m 72 #[.val (.int p0), .val (.int p1), .val (.int ((p0 &&& (2147483647 : Int32)) % (6 : Int32))), .val (.int v0), .val (.int v1), .val (.int v2), .val (.int v3), .unset, .unset, .unset, .unset, .unset, .unset, .unset, .unset, .unset, .unset, .unset, .unset, .unset, .unset, .unset, .unset, .unset, .unset] [(.int (0 : Int32))])) := fun tq kq => G791 tq (by
        refine XS.ifYes X0.here hx rfl (pc0 := 64) (pc' := 71) rfl (hb hby at_64) rfl ((if0 _ _).trans (teq hc792).1) (by decide) (by decide) ?_
        show Steps p.tables e below (s₁.setTop (mkF m 71 #[.val (.int p0), .val (.int p1), .val (.int ((p0 &&& (2147483647 : Int32)) % (6 : Int32))), .val (.int v0), .val (.int v1), .val (.int v2), .val (.int v3), .unset, .unset, .unset, .unset, .unset, .unset, .unset, .unset, .unset, .unset, .unset, .unset, .unset, .unset, .unset, .unset, .unset, .unset] [])) _
        refine XS.iconst X0.here hx rfl (hb hby at_71) ?_
        show Steps p.tables e below (s₁.setTop (mkF m 72 #[.val (.int p0), .val (.int p1), .val (.int ((p0 &&& (2147483647 : Int32)) % (6 : Int32))), .val (.int v0), .val (.int v1), .val (.int v2), .val (.int v3), .unset, .unset, .unset, .unset, .unset, .unset, .unset, .unset, .unset, .unset, .unset, .unset, .unset, .unset, .unset, .unset, .unset, .unset] [(.int (0 : Int32))])) _
        exact kq)
      exact ⟨(0 : Int32), (by decide), G793⟩
    · have G794 : Go p e below A0 (s₁.setTop (mkF m 72 #[.val (.int p0), .val (.int p1), .val (.int ((p0 &&& (2147483647 : Int32)) % (6 : Int32))), .val (.int v0), .val (.int v1), .val (.int v2), .val (.int v3), .unset, .unset, .unset, .unset, .unset, .unset, .unset, .unset, .unset, .unset, .unset, .unset, .unset, .unset, .unset, .unset, .unset, .unset] [(.int (1 : Int32))])) := fun tq kq => G791 tq (by
        refine XS.ifNo X0.here hx rfl (hb hby at_64) rfl ((if0 _ _).trans (feq hc792).1) ?_
        show Steps p.tables e below (s₁.setTop (mkF m 67 #[.val (.int p0), .val (.int p1), .val (.int ((p0 &&& (2147483647 : Int32)) % (6 : Int32))), .val (.int v0), .val (.int v1), .val (.int v2), .val (.int v3), .unset, .unset, .unset, .unset, .unset, .unset, .unset, .unset, .unset, .unset, .unset, .unset, .unset, .unset, .unset, .unset, .unset, .unset] [])) _
        refine XS.iconst X0.here hx rfl (hb hby at_67) ?_
        show Steps p.tables e below (s₁.setTop (mkF m 68 #[.val (.int p0), .val (.int p1), .val (.int ((p0 &&& (2147483647 : Int32)) % (6 : Int32))), .val (.int v0), .val (.int v1), .val (.int v2), .val (.int v3), .unset, .unset, .unset, .unset, .unset, .unset, .unset, .unset, .unset, .unset, .unset, .unset, .unset, .unset, .unset, .unset, .unset, .unset] [(.int (1 : Int32))])) _
        refine XS.goto X0.here hx rfl (pc0 := 68) (pc' := 72) rfl (hb hby at_68) (by decide) (by decide) ?_
        show Steps p.tables e below (s₁.setTop (mkF m 72 #[.val (.int p0), .val (.int p1), .val (.int ((p0 &&& (2147483647 : Int32)) % (6 : Int32))), .val (.int v0), .val (.int v1), .val (.int v2), .val (.int v3), .unset, .unset, .unset, .unset, .unset, .unset, .unset, .unset, .unset, .unset, .unset, .unset, .unset, .unset, .unset, .unset, .unset, .unset] [(.int (1 : Int32))])) _
        exact kq)
      exact ⟨(1 : Int32), (by decide), G794⟩
  have hb4 := hG790
  have G795 : Go p e below A0 (s₁.setTop (mkF m 74 #[.val (.int p0), .val (.int p1), .val (.int ((p0 &&& (2147483647 : Int32)) % (6 : Int32))), .val (.int v0), .val (.int v1), .val (.int v2), .val (.int v3), .val (.int v4), .unset, .unset, .unset, .unset, .unset, .unset, .unset, .unset, .unset, .unset, .unset, .unset, .unset, .unset, .unset, .unset, .unset] [])) := fun tq kq => G790 tq (by
    refine XS.istore X0.here hx rfl (hb hby at_72) rfl (l' := #[.val (.int p0), .val (.int p1), .val (.int ((p0 &&& (2147483647 : Int32)) % (6 : Int32))), .val (.int v0), .val (.int v1), .val (.int v2), .val (.int v3), .val (.int v4), .unset, .unset, .unset, .unset, .unset, .unset, .unset, .unset, .unset, .unset, .unset, .unset, .unset, .unset, .unset, .unset, .unset]) rfl ?_
    show Steps p.tables e below (s₁.setTop (mkF m 74 #[.val (.int p0), .val (.int p1), .val (.int ((p0 &&& (2147483647 : Int32)) % (6 : Int32))), .val (.int v0), .val (.int v1), .val (.int v2), .val (.int v3), .val (.int v4), .unset, .unset, .unset, .unset, .unset, .unset, .unset, .unset, .unset, .unset, .unset, .unset, .unset, .unset, .unset, .unset, .unset] [])) _
    exact kq)
  obtain ⟨T796, h796, X796, e796, E796, A796, D796, -, st796⟩ := newO X0 hx hZ hown (hw _ (List.mem_of_getElem? (i := 1) rfl)) (hw _ (List.mem_of_getElem? (i := 2) rfl)) (hw _ (List.mem_of_getElem? (i := 3) rfl)) e0 (g := (mkF m 74 #[.val (.int p0), .val (.int p1), .val (.int ((p0 &&& (2147483647 : Int32)) % (6 : Int32))), .val (.int v0), .val (.int v1), .val (.int v2), .val (.int v3), .val (.int v4), .unset, .unset, .unset, .unset, .unset, .unset, .unset, .unset, .unset, .unset, .unset, .unset, .unset, .unset, .unset, .unset, .unset] [])) rfl (hb hby at_74) (by decide) (by decide)
  obtain ⟨b796, g796⟩ : ∃ z, z = h0.size := ⟨_, rfl⟩
  rw [← g796] at A796 D796 st796
  have sz_b796 : h0.size ≤ b796 := Nat.le_trans (Nat.le_refl h0.size) (Nat.le_of_eq g796.symm)
  have g_b796 : n0 ≤ b796 := Nat.le_trans Z0 (Nat.le_of_eq g796.symm)
  have F796_values : Fld Z h796 b796 "com/example/tube2/tube2/trace/BooleanSignal" "values" "[Z" .null := D796 (Or.inl (hw _ (List.mem_of_getElem? (i := 20) rfl))) (ty := (.array .boolean)) (by decide)
  have F796_name : Fld Z h796 b796 "com/example/tube2/tube2/trace/BooleanSignal" "name" "Ljava/lang/String;" .null := D796 (Or.inr (hw _ (List.mem_of_getElem? (i := 22) rfl))) (ty := (.object "java/lang/String")) (by decide)
  have F796_size : Fld Z h796 b796 "com/example/tube2/tube2/trace/BooleanSignal" "size" "I" (.int (0 : Int32)) := D796 (Or.inl (hw _ (List.mem_of_getElem? (i := 29) rfl))) (ty := .int) (by decide)
  have G797 : Go p e below A0 (T796.setTop (mkF m 77 #[.val (.int p0), .val (.int p1), .val (.int ((p0 &&& (2147483647 : Int32)) % (6 : Int32))), .val (.int v0), .val (.int v1), .val (.int v2), .val (.int v3), .val (.int v4), .unset, .unset, .unset, .unset, .unset, .unset, .unset, .unset, .unset, .unset, .unset, .unset, .unset, .unset, .unset, .unset, .unset] [(.ref b796)])) := fun tq kq => G795 tq (st796 _ kq)
  have G798 : Go p e below A0 (T796.setTop (mkF m 78 #[.val (.int p0), .val (.int p1), .val (.int ((p0 &&& (2147483647 : Int32)) % (6 : Int32))), .val (.int v0), .val (.int v1), .val (.int v2), .val (.int v3), .val (.int v4), .unset, .unset, .unset, .unset, .unset, .unset, .unset, .unset, .unset, .unset, .unset, .unset, .unset, .unset, .unset, .unset, .unset] [(.ref b796), (.ref b796)])) := fun tq kq => G797 tq (by
    refine XS.dup X796.here hx rfl (hb hby at_77) rfl rfl ?_
    show Steps p.tables e below (T796.setTop (mkF m 78 #[.val (.int p0), .val (.int p1), .val (.int ((p0 &&& (2147483647 : Int32)) % (6 : Int32))), .val (.int v0), .val (.int v1), .val (.int v2), .val (.int v3), .val (.int v4), .unset, .unset, .unset, .unset, .unset, .unset, .unset, .unset, .unset, .unset, .unset, .unset, .unset, .unset, .unset, .unset, .unset] [(.ref b796), (.ref b796)])) _
    exact kq)
  have f800 := (Nat.le_trans (Nat.zero_le h0.size) E796.1)
  obtain ⟨a799, T799, h799, k799, X799, e799, E799, hS, hk799, hZ, hown, st799⟩ := ldcS (s := s) (vm0 := s.vm) X796 hx hZ hown (hw _ (List.mem_of_getElem? (i := 4) rfl)) hstr e796 hS f800 (g := (mkF m 78 #[.val (.int p0), .val (.int p1), .val (.int ((p0 &&& (2147483647 : Int32)) % (6 : Int32))), .val (.int v0), .val (.int v1), .val (.int v2), .val (.int v3), .val (.int v4), .unset, .unset, .unset, .unset, .unset, .unset, .unset, .unset, .unset, .unset, .unset, .unset, .unset, .unset, .unset, .unset, .unset] [(.ref b796), (.ref b796)])) rfl (hb hby at_78) (n := 4) (by decide) (by decide) (by decide) (by decide)
  have G801 : Go p e below A0 (T799.setTop (mkF m 80 #[.val (.int p0), .val (.int p1), .val (.int ((p0 &&& (2147483647 : Int32)) % (6 : Int32))), .val (.int v0), .val (.int v1), .val (.int v2), .val (.int v3), .val (.int v4), .unset, .unset, .unset, .unset, .unset, .unset, .unset, .unset, .unset, .unset, .unset, .unset, .unset, .unset, .unset, .unset, .unset] [(.ref a799), (.ref b796), (.ref b796)])) := fun tq kq => G798 tq (st799 _ kq)
  have f803 := (Nat.le_trans (Nat.le_trans Z0 E796.1) E799.1)
  have f804 := (A796.ext E799)
  have f805 := (F796_values.ext E799)
  have f806 := (F796_size.ext E799)
  have f807 := (F796_name.ext E799)
  obtain ⟨_, _, ⟨T802, L802, k802, n802⟩, -, X802, ⟨Lc802, hQ802, l802, y802, z802⟩, st802⟩ := X799.specialBack hx (y := (⟨"com/example/tube2/tube2/trace/BooleanSignal", "<init>", "(Ljava/lang/String;)V"⟩ : MethodName)) rfl hown (mvT hZ (hw _ (List.mem_of_getElem? (i := 12) rfl))) (mvT hZ (hw _ (List.mem_of_getElem? (i := 13) rfl))) (mvT hZ (hw _ (List.mem_of_getElem? (i := 14) rfl))) (by decide) (backOf (W := 1) (rm1 l Z a0 hw [] b796 a799 h799 n0 f803 f804 f805 f806 f807 g_b796) hZ (hw _ (List.mem_of_getElem? (i := 14) rfl)) (hw _ (List.mem_of_getElem? (i := 3) rfl)) (by decide) (by decide)) (g := (mkF m 80 #[.val (.int p0), .val (.int p1), .val (.int ((p0 &&& (2147483647 : Int32)) % (6 : Int32))), .val (.int v0), .val (.int v1), .val (.int v2), .val (.int v3), .val (.int v4), .unset, .unset, .unset, .unset, .unset, .unset, .unset, .unset, .unset, .unset, .unset, .unset, .unset, .unset, .unset, .unset, .unset] [(.ref a799), (.ref b796), (.ref b796)])) rfl (by rw [hml]; rfl) (Steps.refl _) (a := b796) (argsL := [(.ref a799)]) (rest := [(.ref b796)]) (lenOf pd_0 rfl) rfl (by show 2 * 0 + _ ≤ _; exact Nat.le_of_eq rfl) (hb hby at_80) (fun _ _ => ⟨rfl, e799, (by decide : 3 + 1 ≤ _), (by decide : 11 + 1024 ≤ _)⟩)
  dsimp only [Pt.U, Pt.locs, Pt.cells, Pt.slots] at X802 l802 y802 z802 st802 hQ802
  obtain rfl : k802 = 4 := y802
  obtain rfl : n802 = 1035 := z802
  obtain ⟨vb802, kb802, rfl, N802q, K802, nab802, gb802, F1802, F2802, A802⟩ := hQ802
  have N802 : Fr n0 L802 := by rw [l802]; exact Fr.app N0 N802q
  have G808 : Go p e below A0 (T802.setTop (mkF m 83 #[.val (.int p0), .val (.int p1), .val (.int ((p0 &&& (2147483647 : Int32)) % (6 : Int32))), .val (.int v0), .val (.int v1), .val (.int v2), .val (.int v3), .val (.int v4), .unset, .unset, .unset, .unset, .unset, .unset, .unset, .unset, .unset, .unset, .unset, .unset, .unset, .unset, .unset, .unset, .unset] [(.ref b796)])) := fun tq kq => G801 tq (st802.trans kq)
  have G809 : Go p e below A0 (T802.setTop (mkF m 85 #[.val (.int p0), .val (.int p1), .val (.int ((p0 &&& (2147483647 : Int32)) % (6 : Int32))), .val (.int v0), .val (.int v1), .val (.int v2), .val (.int v3), .val (.int v4), .val (.ref b796), .unset, .unset, .unset, .unset, .unset, .unset, .unset, .unset, .unset, .unset, .unset, .unset, .unset, .unset, .unset, .unset] [])) := fun tq kq => G808 tq (by
    refine XS.astore X802.here hx rfl (hb hby at_83) rfl rfl (l' := #[.val (.int p0), .val (.int p1), .val (.int ((p0 &&& (2147483647 : Int32)) % (6 : Int32))), .val (.int v0), .val (.int v1), .val (.int v2), .val (.int v3), .val (.int v4), .val (.ref b796), .unset, .unset, .unset, .unset, .unset, .unset, .unset, .unset, .unset, .unset, .unset, .unset, .unset, .unset, .unset, .unset]) rfl ?_
    show Steps p.tables e below (T802.setTop (mkF m 85 #[.val (.int p0), .val (.int p1), .val (.int ((p0 &&& (2147483647 : Int32)) % (6 : Int32))), .val (.int v0), .val (.int v1), .val (.int v2), .val (.int v3), .val (.int v4), .val (.ref b796), .unset, .unset, .unset, .unset, .unset, .unset, .unset, .unset, .unset, .unset, .unset, .unset, .unset, .unset, .unset, .unset] [])) _
    exact kq)
  obtain ⟨GOAL, hGOAL⟩ : ∃ P : Prop, P = (∃ s₂ o, Steps p.tables e below (s₁.setTop (entryFrame m #[.int p0, .int p1] maxLocals)) s₂ ∧ s₂.status = Status.running ∧ Ended s₂ below o ∧ ∃ v L, o = Outcome.returned v ∧ Q0c n0 v L ∧ ReturnedEndW s o s₂ L room_1.cells room_1.slots) := ⟨_, rfl⟩
  rw [← hGOAL]
  have cont : ∀ (nn : Int32) (hsix : own_Six nn) (Tc : State) (Lc : List Loc) (rr : Addr) (kr : ClassId) (hc_ : Heap), Stand p l e room_1 (s.setVm T799.vm) m #[.int p0, .int p1] below meth c Tc Lc 5 1040 → Tc.heap = hc_ → Fr n0 Lc → n0 ≤ hc_.size → k799 ≤ hc_.size → Af Z hc_ rr kr .int nn (own_G nn v0 v1 v2 v3 v4) → Go p e below A0 (Tc.setTop (mkF m 150 #[.val (.int p0), .val (.int p1), .val (.int nn), .val (.int v0), .val (.int v1), .val (.int v2), .val (.int v3), .val (.int v4), .val (.ref b796), .val (.ref rr), .unset, .unset, .unset, .unset, .unset, .unset, .unset, .unset, .unset, .unset, .unset, .unset, .unset, .unset, .unset] [])) → GOAL := by
    intro nn hsix Tc Lc rr kr hc_ Xc ec Nc zc uc Ac Gc
    rw [hGOAL]
    have G810 : Go p e below A0 (Tc.setTop (mkF m 157 #[.val (.int p0), .val (.int p1), .val (.int nn), .val (.int v0), .val (.int v1), .val (.int v2), .val (.int v3), .val (.int v4), .val (.ref b796), .val (.ref rr), .unset, .unset, .unset, .unset, .unset, .unset, .unset, .unset, .unset, .unset, .unset, .unset, .unset, .unset, .unset] [(.ref rr)])) := fun tq kq => Gc tq (by
      refine XS.aload Xc.here hx rfl (hb hby at_150) rfl rfl ?_
      show Steps p.tables e below (Tc.setTop (mkF m 152 #[.val (.int p0), .val (.int p1), .val (.int nn), .val (.int v0), .val (.int v1), .val (.int v2), .val (.int v3), .val (.int v4), .val (.ref b796), .val (.ref rr), .unset, .unset, .unset, .unset, .unset, .unset, .unset, .unset, .unset, .unset, .unset, .unset, .unset, .unset, .unset] [(.ref rr)])) _
      refine XS.ifnullNo Xc.here hx rfl (hb hby at_152) rfl ?_
      show Steps p.tables e below (Tc.setTop (mkF m 155 #[.val (.int p0), .val (.int p1), .val (.int nn), .val (.int v0), .val (.int v1), .val (.int v2), .val (.int v3), .val (.int v4), .val (.ref b796), .val (.ref rr), .unset, .unset, .unset, .unset, .unset, .unset, .unset, .unset, .unset, .unset, .unset, .unset, .unset, .unset, .unset] [])) _
      refine XS.aload Xc.here hx rfl (hb hby at_155) rfl rfl ?_
      show Steps p.tables e below (Tc.setTop (mkF m 157 #[.val (.int p0), .val (.int p1), .val (.int nn), .val (.int v0), .val (.int v1), .val (.int v2), .val (.int v3), .val (.int v4), .val (.ref b796), .val (.ref rr), .unset, .unset, .unset, .unset, .unset, .unset, .unset, .unset, .unset, .unset, .unset, .unset, .unset, .unset, .unset] [(.ref rr)])) _
      exact kq)
    obtain ⟨cl811, Ar811, q811, S811, M811, H811⟩ := id Ac
    have G812 : Go p e below A0 (Tc.setTop (mkF m 164 #[.val (.int p0), .val (.int p1), .val (.int nn), .val (.int v0), .val (.int v1), .val (.int v2), .val (.int v3), .val (.int v4), .val (.ref b796), .val (.ref rr), .unset, .unset, .unset, .unset, .unset, .unset, .unset, .unset, .unset, .unset, .unset, .unset, .unset, .unset, .unset] [])) := fun tq kq => G810 tq (by
      refine Xc.arraylength hx (by rw [ec]; exact Ar811.1) (State.isArrayOf_alike hZ.alike Ar811.2.1) (g := (mkF m 157 #[.val (.int p0), .val (.int p1), .val (.int nn), .val (.int v0), .val (.int v1), .val (.int v2), .val (.int v3), .val (.int v4), .val (.ref b796), .val (.ref rr), .unset, .unset, .unset, .unset, .unset, .unset, .unset, .unset, .unset, .unset, .unset, .unset, .unset, .unset, .unset] [(.ref rr)])) rfl rfl (hb hby at_157) _ ?_
      rw [len_of S811 M811]
      show Steps p.tables e below (Tc.setTop (mkF m 158 #[.val (.int p0), .val (.int p1), .val (.int nn), .val (.int v0), .val (.int v1), .val (.int v2), .val (.int v3), .val (.int v4), .val (.ref b796), .val (.ref rr), .unset, .unset, .unset, .unset, .unset, .unset, .unset, .unset, .unset, .unset, .unset, .unset, .unset, .unset, .unset] [(.int nn)])) _
      refine XS.iloadN Xc.here hx rfl (hb hby at_158) rfl ?_
      show Steps p.tables e below (Tc.setTop (mkF m 159 #[.val (.int p0), .val (.int p1), .val (.int nn), .val (.int v0), .val (.int v1), .val (.int v2), .val (.int v3), .val (.int v4), .val (.ref b796), .val (.ref rr), .unset, .unset, .unset, .unset, .unset, .unset, .unset, .unset, .unset, .unset, .unset, .unset, .unset, .unset, .unset] [(.int nn), (.int nn)])) _
      refine XS.icmpYes Xc.here hx rfl (pc0 := 159) (pc' := 164) rfl (hb hby at_159) rfl (teq (rfl : nn = nn)).1 (by decide) (by decide) ?_
      show Steps p.tables e below (Tc.setTop (mkF m 164 #[.val (.int p0), .val (.int p1), .val (.int nn), .val (.int v0), .val (.int v1), .val (.int v2), .val (.int v3), .val (.int v4), .val (.ref b796), .val (.ref rr), .unset, .unset, .unset, .unset, .unset, .unset, .unset, .unset, .unset, .unset, .unset, .unset, .unset, .unset, .unset] [])) _
      exact kq)
    obtain ⟨f0, hG813, G813⟩ : ∃ (f0 : Int32), (f0 = (own_f (0 : Int32) nn v0)) ∧ Go p e below A0 (Tc.setTop (mkF m 177 #[.val (.int p0), .val (.int p1), .val (.int nn), .val (.int v0), .val (.int v1), .val (.int v2), .val (.int v3), .val (.int v4), .val (.ref b796), .val (.ref rr), .unset, .unset, .unset, .unset, .unset, .unset, .unset, .unset, .unset, .unset, .unset, .unset, .unset, .unset, .unset] [(.int f0)])) := by
      have G814 : Go p e below A0 (Tc.setTop (mkF m 165 #[.val (.int p0), .val (.int p1), .val (.int nn), .val (.int v0), .val (.int v1), .val (.int v2), .val (.int v3), .val (.int v4), .val (.ref b796), .val (.ref rr), .unset, .unset, .unset, .unset, .unset, .unset, .unset, .unset, .unset, .unset, .unset, .unset, .unset, .unset, .unset] [(.int nn)])) := fun tq kq => G812 tq (by
        refine XS.iloadN Xc.here hx rfl (hb hby at_164) rfl ?_
        show Steps p.tables e below (Tc.setTop (mkF m 165 #[.val (.int p0), .val (.int p1), .val (.int nn), .val (.int v0), .val (.int v1), .val (.int v2), .val (.int v3), .val (.int v4), .val (.ref b796), .val (.ref rr), .unset, .unset, .unset, .unset, .unset, .unset, .unset, .unset, .unset, .unset, .unset, .unset, .unset, .unset, .unset] [(.int nn)])) _
        exact kq)
      by_cases hc815 : (0 : Int32) < nn
      · have G816 : Go p e below A0 (Tc.setTop (mkF m 169 #[.val (.int p0), .val (.int p1), .val (.int nn), .val (.int v0), .val (.int v1), .val (.int v2), .val (.int v3), .val (.int v4), .val (.ref b796), .val (.ref rr), .unset, .unset, .unset, .unset, .unset, .unset, .unset, .unset, .unset, .unset, .unset, .unset, .unset, .unset, .unset] [(.int v0)])) := fun tq kq => G814 tq (by
          refine XS.ifNo Xc.here hx rfl (hb hby at_165) rfl ((if0 _ _).trans (tlt hc815).2.2.2) ?_
          show Steps p.tables e below (Tc.setTop (mkF m 168 #[.val (.int p0), .val (.int p1), .val (.int nn), .val (.int v0), .val (.int v1), .val (.int v2), .val (.int v3), .val (.int v4), .val (.ref b796), .val (.ref rr), .unset, .unset, .unset, .unset, .unset, .unset, .unset, .unset, .unset, .unset, .unset, .unset, .unset, .unset, .unset] [])) _
          refine XS.iloadN Xc.here hx rfl (hb hby at_168) rfl ?_
          show Steps p.tables e below (Tc.setTop (mkF m 169 #[.val (.int p0), .val (.int p1), .val (.int nn), .val (.int v0), .val (.int v1), .val (.int v2), .val (.int v3), .val (.int v4), .val (.ref b796), .val (.ref rr), .unset, .unset, .unset, .unset, .unset, .unset, .unset, .unset, .unset, .unset, .unset, .unset, .unset, .unset, .unset] [(.int v0)])) _
          exact kq)
        by_cases hc817 : v0 = (0 : Int32)
        · have G818 : Go p e below A0 (Tc.setTop (mkF m 177 #[.val (.int p0), .val (.int p1), .val (.int nn), .val (.int v0), .val (.int v1), .val (.int v2), .val (.int v3), .val (.int v4), .val (.ref b796), .val (.ref rr), .unset, .unset, .unset, .unset, .unset, .unset, .unset, .unset, .unset, .unset, .unset, .unset, .unset, .unset, .unset] [(.int (1 : Int32))])) := fun tq kq => G816 tq (by
            refine XS.ifNo Xc.here hx rfl (hb hby at_169) rfl ((if0 _ _).trans (teq hc817).2) ?_
            show Steps p.tables e below (Tc.setTop (mkF m 172 #[.val (.int p0), .val (.int p1), .val (.int nn), .val (.int v0), .val (.int v1), .val (.int v2), .val (.int v3), .val (.int v4), .val (.ref b796), .val (.ref rr), .unset, .unset, .unset, .unset, .unset, .unset, .unset, .unset, .unset, .unset, .unset, .unset, .unset, .unset, .unset] [])) _
            refine XS.iconst Xc.here hx rfl (hb hby at_172) ?_
            show Steps p.tables e below (Tc.setTop (mkF m 173 #[.val (.int p0), .val (.int p1), .val (.int nn), .val (.int v0), .val (.int v1), .val (.int v2), .val (.int v3), .val (.int v4), .val (.ref b796), .val (.ref rr), .unset, .unset, .unset, .unset, .unset, .unset, .unset, .unset, .unset, .unset, .unset, .unset, .unset, .unset, .unset] [(.int (1 : Int32))])) _
            refine XS.goto Xc.here hx rfl (pc0 := 173) (pc' := 177) rfl (hb hby at_173) (by decide) (by decide) ?_
            show Steps p.tables e below (Tc.setTop (mkF m 177 #[.val (.int p0), .val (.int p1), .val (.int nn), .val (.int v0), .val (.int v1), .val (.int v2), .val (.int v3), .val (.int v4), .val (.ref b796), .val (.ref rr), .unset, .unset, .unset, .unset, .unset, .unset, .unset, .unset, .unset, .unset, .unset, .unset, .unset, .unset, .unset] [(.int (1 : Int32))])) _
            exact kq)
          exact ⟨(1 : Int32), (by simp only [own_b, own_f, hc815, hc817, not_true_eq_false, not_false_eq_true, if_true, if_false, or_true, true_or, or_false, false_or, and_true, true_and, and_false, false_and, and_self, or_self]), G818⟩
        · have G819 : Go p e below A0 (Tc.setTop (mkF m 177 #[.val (.int p0), .val (.int p1), .val (.int nn), .val (.int v0), .val (.int v1), .val (.int v2), .val (.int v3), .val (.int v4), .val (.ref b796), .val (.ref rr), .unset, .unset, .unset, .unset, .unset, .unset, .unset, .unset, .unset, .unset, .unset, .unset, .unset, .unset, .unset] [(.int (0 : Int32))])) := fun tq kq => G816 tq (by
            refine XS.ifYes Xc.here hx rfl (pc0 := 169) (pc' := 176) rfl (hb hby at_169) rfl ((if0 _ _).trans (feq hc817).2) (by decide) (by decide) ?_
            show Steps p.tables e below (Tc.setTop (mkF m 176 #[.val (.int p0), .val (.int p1), .val (.int nn), .val (.int v0), .val (.int v1), .val (.int v2), .val (.int v3), .val (.int v4), .val (.ref b796), .val (.ref rr), .unset, .unset, .unset, .unset, .unset, .unset, .unset, .unset, .unset, .unset, .unset, .unset, .unset, .unset, .unset] [])) _
            refine XS.iconst Xc.here hx rfl (hb hby at_176) ?_
            show Steps p.tables e below (Tc.setTop (mkF m 177 #[.val (.int p0), .val (.int p1), .val (.int nn), .val (.int v0), .val (.int v1), .val (.int v2), .val (.int v3), .val (.int v4), .val (.ref b796), .val (.ref rr), .unset, .unset, .unset, .unset, .unset, .unset, .unset, .unset, .unset, .unset, .unset, .unset, .unset, .unset, .unset] [(.int (0 : Int32))])) _
            exact kq)
          exact ⟨(0 : Int32), (by simp only [own_b, own_f, hc815, hc817, not_true_eq_false, not_false_eq_true, if_true, if_false, or_true, true_or, or_false, false_or, and_true, true_and, and_false, false_and, and_self, or_self]), G819⟩
      · have G820 : Go p e below A0 (Tc.setTop (mkF m 177 #[.val (.int p0), .val (.int p1), .val (.int nn), .val (.int v0), .val (.int v1), .val (.int v2), .val (.int v3), .val (.int v4), .val (.ref b796), .val (.ref rr), .unset, .unset, .unset, .unset, .unset, .unset, .unset, .unset, .unset, .unset, .unset, .unset, .unset, .unset, .unset] [(.int (0 : Int32))])) := fun tq kq => G814 tq (by
          refine XS.ifYes Xc.here hx rfl (pc0 := 165) (pc' := 176) rfl (hb hby at_165) rfl ((if0 _ _).trans (flt hc815).2.2.2) (by decide) (by decide) ?_
          show Steps p.tables e below (Tc.setTop (mkF m 176 #[.val (.int p0), .val (.int p1), .val (.int nn), .val (.int v0), .val (.int v1), .val (.int v2), .val (.int v3), .val (.int v4), .val (.ref b796), .val (.ref rr), .unset, .unset, .unset, .unset, .unset, .unset, .unset, .unset, .unset, .unset, .unset, .unset, .unset, .unset, .unset] [])) _
          refine XS.iconst Xc.here hx rfl (hb hby at_176) ?_
          show Steps p.tables e below (Tc.setTop (mkF m 177 #[.val (.int p0), .val (.int p1), .val (.int nn), .val (.int v0), .val (.int v1), .val (.int v2), .val (.int v3), .val (.int v4), .val (.ref b796), .val (.ref rr), .unset, .unset, .unset, .unset, .unset, .unset, .unset, .unset, .unset, .unset, .unset, .unset, .unset, .unset, .unset] [(.int (0 : Int32))])) _
          exact kq)
        exact ⟨(0 : Int32), (by simp only [own_b, own_f, hc815, not_true_eq_false, not_false_eq_true, if_true, if_false, or_true, true_or, or_false, false_or, and_true, true_and, and_false, false_and, and_self, or_self]), G820⟩
    subst hG813
    have G821 : Go p e below A0 (Tc.setTop (mkF m 179 #[.val (.int p0), .val (.int p1), .val (.int nn), .val (.int v0), .val (.int v1), .val (.int v2), .val (.int v3), .val (.int v4), .val (.ref b796), .val (.ref rr), .val (.int (own_f (0 : Int32) nn v0)), .unset, .unset, .unset, .unset, .unset, .unset, .unset, .unset, .unset, .unset, .unset, .unset, .unset, .unset] [])) := fun tq kq => G813 tq (by
      refine XS.istore Xc.here hx rfl (hb hby at_177) rfl (l' := #[.val (.int p0), .val (.int p1), .val (.int nn), .val (.int v0), .val (.int v1), .val (.int v2), .val (.int v3), .val (.int v4), .val (.ref b796), .val (.ref rr), .val (.int (own_f (0 : Int32) nn v0)), .unset, .unset, .unset, .unset, .unset, .unset, .unset, .unset, .unset, .unset, .unset, .unset, .unset, .unset]) rfl ?_
      show Steps p.tables e below (Tc.setTop (mkF m 179 #[.val (.int p0), .val (.int p1), .val (.int nn), .val (.int v0), .val (.int v1), .val (.int v2), .val (.int v3), .val (.int v4), .val (.ref b796), .val (.ref rr), .val (.int (own_f (0 : Int32) nn v0)), .unset, .unset, .unset, .unset, .unset, .unset, .unset, .unset, .unset, .unset, .unset, .unset, .unset, .unset] [])) _
      exact kq)
    obtain ⟨f1, hG822, G822⟩ : ∃ (f1 : Int32), (f1 = (own_f (1 : Int32) nn v1)) ∧ Go p e below A0 (Tc.setTop (mkF m 194 #[.val (.int p0), .val (.int p1), .val (.int nn), .val (.int v0), .val (.int v1), .val (.int v2), .val (.int v3), .val (.int v4), .val (.ref b796), .val (.ref rr), .val (.int (own_f (0 : Int32) nn v0)), .unset, .unset, .unset, .unset, .unset, .unset, .unset, .unset, .unset, .unset, .unset, .unset, .unset, .unset] [(.int f1)])) := by
      have G823 : Go p e below A0 (Tc.setTop (mkF m 181 #[.val (.int p0), .val (.int p1), .val (.int nn), .val (.int v0), .val (.int v1), .val (.int v2), .val (.int v3), .val (.int v4), .val (.ref b796), .val (.ref rr), .val (.int (own_f (0 : Int32) nn v0)), .unset, .unset, .unset, .unset, .unset, .unset, .unset, .unset, .unset, .unset, .unset, .unset, .unset, .unset] [(.int (1 : Int32)), (.int nn)])) := fun tq kq => G821 tq (by
        refine XS.iloadN Xc.here hx rfl (hb hby at_179) rfl ?_
        show Steps p.tables e below (Tc.setTop (mkF m 180 #[.val (.int p0), .val (.int p1), .val (.int nn), .val (.int v0), .val (.int v1), .val (.int v2), .val (.int v3), .val (.int v4), .val (.ref b796), .val (.ref rr), .val (.int (own_f (0 : Int32) nn v0)), .unset, .unset, .unset, .unset, .unset, .unset, .unset, .unset, .unset, .unset, .unset, .unset, .unset, .unset] [(.int nn)])) _
        refine XS.iconst Xc.here hx rfl (hb hby at_180) ?_
        show Steps p.tables e below (Tc.setTop (mkF m 181 #[.val (.int p0), .val (.int p1), .val (.int nn), .val (.int v0), .val (.int v1), .val (.int v2), .val (.int v3), .val (.int v4), .val (.ref b796), .val (.ref rr), .val (.int (own_f (0 : Int32) nn v0)), .unset, .unset, .unset, .unset, .unset, .unset, .unset, .unset, .unset, .unset, .unset, .unset, .unset, .unset] [(.int (1 : Int32)), (.int nn)])) _
        exact kq)
      by_cases hc824 : (1 : Int32) < nn
      · have G825 : Go p e below A0 (Tc.setTop (mkF m 186 #[.val (.int p0), .val (.int p1), .val (.int nn), .val (.int v0), .val (.int v1), .val (.int v2), .val (.int v3), .val (.int v4), .val (.ref b796), .val (.ref rr), .val (.int (own_f (0 : Int32) nn v0)), .unset, .unset, .unset, .unset, .unset, .unset, .unset, .unset, .unset, .unset, .unset, .unset, .unset, .unset] [(.int v1)])) := fun tq kq => G823 tq (by
          refine XS.icmpNo Xc.here hx rfl (hb hby at_181) rfl (tlt hc824).2.2.2 ?_
          show Steps p.tables e below (Tc.setTop (mkF m 184 #[.val (.int p0), .val (.int p1), .val (.int nn), .val (.int v0), .val (.int v1), .val (.int v2), .val (.int v3), .val (.int v4), .val (.ref b796), .val (.ref rr), .val (.int (own_f (0 : Int32) nn v0)), .unset, .unset, .unset, .unset, .unset, .unset, .unset, .unset, .unset, .unset, .unset, .unset, .unset, .unset] [])) _
          refine XS.iload Xc.here hx rfl (hb hby at_184) rfl ?_
          show Steps p.tables e below (Tc.setTop (mkF m 186 #[.val (.int p0), .val (.int p1), .val (.int nn), .val (.int v0), .val (.int v1), .val (.int v2), .val (.int v3), .val (.int v4), .val (.ref b796), .val (.ref rr), .val (.int (own_f (0 : Int32) nn v0)), .unset, .unset, .unset, .unset, .unset, .unset, .unset, .unset, .unset, .unset, .unset, .unset, .unset, .unset] [(.int v1)])) _
          exact kq)
        by_cases hc826 : v1 = (0 : Int32)
        · have G827 : Go p e below A0 (Tc.setTop (mkF m 194 #[.val (.int p0), .val (.int p1), .val (.int nn), .val (.int v0), .val (.int v1), .val (.int v2), .val (.int v3), .val (.int v4), .val (.ref b796), .val (.ref rr), .val (.int (own_f (0 : Int32) nn v0)), .unset, .unset, .unset, .unset, .unset, .unset, .unset, .unset, .unset, .unset, .unset, .unset, .unset, .unset] [(.int (1 : Int32))])) := fun tq kq => G825 tq (by
            refine XS.ifNo Xc.here hx rfl (hb hby at_186) rfl ((if0 _ _).trans (teq hc826).2) ?_
            show Steps p.tables e below (Tc.setTop (mkF m 189 #[.val (.int p0), .val (.int p1), .val (.int nn), .val (.int v0), .val (.int v1), .val (.int v2), .val (.int v3), .val (.int v4), .val (.ref b796), .val (.ref rr), .val (.int (own_f (0 : Int32) nn v0)), .unset, .unset, .unset, .unset, .unset, .unset, .unset, .unset, .unset, .unset, .unset, .unset, .unset, .unset] [])) _
            refine XS.iconst Xc.here hx rfl (hb hby at_189) ?_
            show Steps p.tables e below (Tc.setTop (mkF m 190 #[.val (.int p0), .val (.int p1), .val (.int nn), .val (.int v0), .val (.int v1), .val (.int v2), .val (.int v3), .val (.int v4), .val (.ref b796), .val (.ref rr), .val (.int (own_f (0 : Int32) nn v0)), .unset, .unset, .unset, .unset, .unset, .unset, .unset, .unset, .unset, .unset, .unset, .unset, .unset, .unset] [(.int (1 : Int32))])) _
            refine XS.goto Xc.here hx rfl (pc0 := 190) (pc' := 194) rfl (hb hby at_190) (by decide) (by decide) ?_
            show Steps p.tables e below (Tc.setTop (mkF m 194 #[.val (.int p0), .val (.int p1), .val (.int nn), .val (.int v0), .val (.int v1), .val (.int v2), .val (.int v3), .val (.int v4), .val (.ref b796), .val (.ref rr), .val (.int (own_f (0 : Int32) nn v0)), .unset, .unset, .unset, .unset, .unset, .unset, .unset, .unset, .unset, .unset, .unset, .unset, .unset, .unset] [(.int (1 : Int32))])) _
            exact kq)
          exact ⟨(1 : Int32), (by simp only [own_b, own_f, hc824, hc826, not_true_eq_false, not_false_eq_true, if_true, if_false, or_true, true_or, or_false, false_or, and_true, true_and, and_false, false_and, and_self, or_self]), G827⟩
        · have G828 : Go p e below A0 (Tc.setTop (mkF m 194 #[.val (.int p0), .val (.int p1), .val (.int nn), .val (.int v0), .val (.int v1), .val (.int v2), .val (.int v3), .val (.int v4), .val (.ref b796), .val (.ref rr), .val (.int (own_f (0 : Int32) nn v0)), .unset, .unset, .unset, .unset, .unset, .unset, .unset, .unset, .unset, .unset, .unset, .unset, .unset, .unset] [(.int (0 : Int32))])) := fun tq kq => G825 tq (by
            refine XS.ifYes Xc.here hx rfl (pc0 := 186) (pc' := 193) rfl (hb hby at_186) rfl ((if0 _ _).trans (feq hc826).2) (by decide) (by decide) ?_
            show Steps p.tables e below (Tc.setTop (mkF m 193 #[.val (.int p0), .val (.int p1), .val (.int nn), .val (.int v0), .val (.int v1), .val (.int v2), .val (.int v3), .val (.int v4), .val (.ref b796), .val (.ref rr), .val (.int (own_f (0 : Int32) nn v0)), .unset, .unset, .unset, .unset, .unset, .unset, .unset, .unset, .unset, .unset, .unset, .unset, .unset, .unset] [])) _
            refine XS.iconst Xc.here hx rfl (hb hby at_193) ?_
            show Steps p.tables e below (Tc.setTop (mkF m 194 #[.val (.int p0), .val (.int p1), .val (.int nn), .val (.int v0), .val (.int v1), .val (.int v2), .val (.int v3), .val (.int v4), .val (.ref b796), .val (.ref rr), .val (.int (own_f (0 : Int32) nn v0)), .unset, .unset, .unset, .unset, .unset, .unset, .unset, .unset, .unset, .unset, .unset, .unset, .unset, .unset] [(.int (0 : Int32))])) _
            exact kq)
          exact ⟨(0 : Int32), (by simp only [own_b, own_f, hc824, hc826, not_true_eq_false, not_false_eq_true, if_true, if_false, or_true, true_or, or_false, false_or, and_true, true_and, and_false, false_and, and_self, or_self]), G828⟩
      · have G829 : Go p e below A0 (Tc.setTop (mkF m 194 #[.val (.int p0), .val (.int p1), .val (.int nn), .val (.int v0), .val (.int v1), .val (.int v2), .val (.int v3), .val (.int v4), .val (.ref b796), .val (.ref rr), .val (.int (own_f (0 : Int32) nn v0)), .unset, .unset, .unset, .unset, .unset, .unset, .unset, .unset, .unset, .unset, .unset, .unset, .unset, .unset] [(.int (0 : Int32))])) := fun tq kq => G823 tq (by
          refine XS.icmpYes Xc.here hx rfl (pc0 := 181) (pc' := 193) rfl (hb hby at_181) rfl (flt hc824).2.2.2 (by decide) (by decide) ?_
          show Steps p.tables e below (Tc.setTop (mkF m 193 #[.val (.int p0), .val (.int p1), .val (.int nn), .val (.int v0), .val (.int v1), .val (.int v2), .val (.int v3), .val (.int v4), .val (.ref b796), .val (.ref rr), .val (.int (own_f (0 : Int32) nn v0)), .unset, .unset, .unset, .unset, .unset, .unset, .unset, .unset, .unset, .unset, .unset, .unset, .unset, .unset] [])) _
          refine XS.iconst Xc.here hx rfl (hb hby at_193) ?_
          show Steps p.tables e below (Tc.setTop (mkF m 194 #[.val (.int p0), .val (.int p1), .val (.int nn), .val (.int v0), .val (.int v1), .val (.int v2), .val (.int v3), .val (.int v4), .val (.ref b796), .val (.ref rr), .val (.int (own_f (0 : Int32) nn v0)), .unset, .unset, .unset, .unset, .unset, .unset, .unset, .unset, .unset, .unset, .unset, .unset, .unset, .unset] [(.int (0 : Int32))])) _
          exact kq)
        exact ⟨(0 : Int32), (by simp only [own_b, own_f, hc824, not_true_eq_false, not_false_eq_true, if_true, if_false, or_true, true_or, or_false, false_or, and_true, true_and, and_false, false_and, and_self, or_self]), G829⟩
    subst hG822
    have G830 : Go p e below A0 (Tc.setTop (mkF m 196 #[.val (.int p0), .val (.int p1), .val (.int nn), .val (.int v0), .val (.int v1), .val (.int v2), .val (.int v3), .val (.int v4), .val (.ref b796), .val (.ref rr), .val (.int (own_f (0 : Int32) nn v0)), .val (.int (own_f (1 : Int32) nn v1)), .unset, .unset, .unset, .unset, .unset, .unset, .unset, .unset, .unset, .unset, .unset, .unset, .unset] [])) := fun tq kq => G822 tq (by
      refine XS.istore Xc.here hx rfl (hb hby at_194) rfl (l' := #[.val (.int p0), .val (.int p1), .val (.int nn), .val (.int v0), .val (.int v1), .val (.int v2), .val (.int v3), .val (.int v4), .val (.ref b796), .val (.ref rr), .val (.int (own_f (0 : Int32) nn v0)), .val (.int (own_f (1 : Int32) nn v1)), .unset, .unset, .unset, .unset, .unset, .unset, .unset, .unset, .unset, .unset, .unset, .unset, .unset]) rfl ?_
      show Steps p.tables e below (Tc.setTop (mkF m 196 #[.val (.int p0), .val (.int p1), .val (.int nn), .val (.int v0), .val (.int v1), .val (.int v2), .val (.int v3), .val (.int v4), .val (.ref b796), .val (.ref rr), .val (.int (own_f (0 : Int32) nn v0)), .val (.int (own_f (1 : Int32) nn v1)), .unset, .unset, .unset, .unset, .unset, .unset, .unset, .unset, .unset, .unset, .unset, .unset, .unset] [])) _
      exact kq)
    obtain ⟨f2, hG831, G831⟩ : ∃ (f2 : Int32), (f2 = (own_f (2 : Int32) nn v2)) ∧ Go p e below A0 (Tc.setTop (mkF m 211 #[.val (.int p0), .val (.int p1), .val (.int nn), .val (.int v0), .val (.int v1), .val (.int v2), .val (.int v3), .val (.int v4), .val (.ref b796), .val (.ref rr), .val (.int (own_f (0 : Int32) nn v0)), .val (.int (own_f (1 : Int32) nn v1)), .unset, .unset, .unset, .unset, .unset, .unset, .unset, .unset, .unset, .unset, .unset, .unset, .unset] [(.int f2)])) := by
      have G832 : Go p e below A0 (Tc.setTop (mkF m 198 #[.val (.int p0), .val (.int p1), .val (.int nn), .val (.int v0), .val (.int v1), .val (.int v2), .val (.int v3), .val (.int v4), .val (.ref b796), .val (.ref rr), .val (.int (own_f (0 : Int32) nn v0)), .val (.int (own_f (1 : Int32) nn v1)), .unset, .unset, .unset, .unset, .unset, .unset, .unset, .unset, .unset, .unset, .unset, .unset, .unset] [(.int (2 : Int32)), (.int nn)])) := fun tq kq => G830 tq (by
        refine XS.iloadN Xc.here hx rfl (hb hby at_196) rfl ?_
        show Steps p.tables e below (Tc.setTop (mkF m 197 #[.val (.int p0), .val (.int p1), .val (.int nn), .val (.int v0), .val (.int v1), .val (.int v2), .val (.int v3), .val (.int v4), .val (.ref b796), .val (.ref rr), .val (.int (own_f (0 : Int32) nn v0)), .val (.int (own_f (1 : Int32) nn v1)), .unset, .unset, .unset, .unset, .unset, .unset, .unset, .unset, .unset, .unset, .unset, .unset, .unset] [(.int nn)])) _
        refine XS.iconst Xc.here hx rfl (hb hby at_197) ?_
        show Steps p.tables e below (Tc.setTop (mkF m 198 #[.val (.int p0), .val (.int p1), .val (.int nn), .val (.int v0), .val (.int v1), .val (.int v2), .val (.int v3), .val (.int v4), .val (.ref b796), .val (.ref rr), .val (.int (own_f (0 : Int32) nn v0)), .val (.int (own_f (1 : Int32) nn v1)), .unset, .unset, .unset, .unset, .unset, .unset, .unset, .unset, .unset, .unset, .unset, .unset, .unset] [(.int (2 : Int32)), (.int nn)])) _
        exact kq)
      by_cases hc833 : (2 : Int32) < nn
      · have G834 : Go p e below A0 (Tc.setTop (mkF m 203 #[.val (.int p0), .val (.int p1), .val (.int nn), .val (.int v0), .val (.int v1), .val (.int v2), .val (.int v3), .val (.int v4), .val (.ref b796), .val (.ref rr), .val (.int (own_f (0 : Int32) nn v0)), .val (.int (own_f (1 : Int32) nn v1)), .unset, .unset, .unset, .unset, .unset, .unset, .unset, .unset, .unset, .unset, .unset, .unset, .unset] [(.int v2)])) := fun tq kq => G832 tq (by
          refine XS.icmpNo Xc.here hx rfl (hb hby at_198) rfl (tlt hc833).2.2.2 ?_
          show Steps p.tables e below (Tc.setTop (mkF m 201 #[.val (.int p0), .val (.int p1), .val (.int nn), .val (.int v0), .val (.int v1), .val (.int v2), .val (.int v3), .val (.int v4), .val (.ref b796), .val (.ref rr), .val (.int (own_f (0 : Int32) nn v0)), .val (.int (own_f (1 : Int32) nn v1)), .unset, .unset, .unset, .unset, .unset, .unset, .unset, .unset, .unset, .unset, .unset, .unset, .unset] [])) _
          refine XS.iload Xc.here hx rfl (hb hby at_201) rfl ?_
          show Steps p.tables e below (Tc.setTop (mkF m 203 #[.val (.int p0), .val (.int p1), .val (.int nn), .val (.int v0), .val (.int v1), .val (.int v2), .val (.int v3), .val (.int v4), .val (.ref b796), .val (.ref rr), .val (.int (own_f (0 : Int32) nn v0)), .val (.int (own_f (1 : Int32) nn v1)), .unset, .unset, .unset, .unset, .unset, .unset, .unset, .unset, .unset, .unset, .unset, .unset, .unset] [(.int v2)])) _
          exact kq)
        by_cases hc835 : v2 = (0 : Int32)
        · have G836 : Go p e below A0 (Tc.setTop (mkF m 211 #[.val (.int p0), .val (.int p1), .val (.int nn), .val (.int v0), .val (.int v1), .val (.int v2), .val (.int v3), .val (.int v4), .val (.ref b796), .val (.ref rr), .val (.int (own_f (0 : Int32) nn v0)), .val (.int (own_f (1 : Int32) nn v1)), .unset, .unset, .unset, .unset, .unset, .unset, .unset, .unset, .unset, .unset, .unset, .unset, .unset] [(.int (1 : Int32))])) := fun tq kq => G834 tq (by
            refine XS.ifNo Xc.here hx rfl (hb hby at_203) rfl ((if0 _ _).trans (teq hc835).2) ?_
            show Steps p.tables e below (Tc.setTop (mkF m 206 #[.val (.int p0), .val (.int p1), .val (.int nn), .val (.int v0), .val (.int v1), .val (.int v2), .val (.int v3), .val (.int v4), .val (.ref b796), .val (.ref rr), .val (.int (own_f (0 : Int32) nn v0)), .val (.int (own_f (1 : Int32) nn v1)), .unset, .unset, .unset, .unset, .unset, .unset, .unset, .unset, .unset, .unset, .unset, .unset, .unset] [])) _
            refine XS.iconst Xc.here hx rfl (hb hby at_206) ?_
            show Steps p.tables e below (Tc.setTop (mkF m 207 #[.val (.int p0), .val (.int p1), .val (.int nn), .val (.int v0), .val (.int v1), .val (.int v2), .val (.int v3), .val (.int v4), .val (.ref b796), .val (.ref rr), .val (.int (own_f (0 : Int32) nn v0)), .val (.int (own_f (1 : Int32) nn v1)), .unset, .unset, .unset, .unset, .unset, .unset, .unset, .unset, .unset, .unset, .unset, .unset, .unset] [(.int (1 : Int32))])) _
            refine XS.goto Xc.here hx rfl (pc0 := 207) (pc' := 211) rfl (hb hby at_207) (by decide) (by decide) ?_
            show Steps p.tables e below (Tc.setTop (mkF m 211 #[.val (.int p0), .val (.int p1), .val (.int nn), .val (.int v0), .val (.int v1), .val (.int v2), .val (.int v3), .val (.int v4), .val (.ref b796), .val (.ref rr), .val (.int (own_f (0 : Int32) nn v0)), .val (.int (own_f (1 : Int32) nn v1)), .unset, .unset, .unset, .unset, .unset, .unset, .unset, .unset, .unset, .unset, .unset, .unset, .unset] [(.int (1 : Int32))])) _
            exact kq)
          exact ⟨(1 : Int32), (by simp only [own_b, own_f, hc833, hc835, not_true_eq_false, not_false_eq_true, if_true, if_false, or_true, true_or, or_false, false_or, and_true, true_and, and_false, false_and, and_self, or_self]), G836⟩
        · have G837 : Go p e below A0 (Tc.setTop (mkF m 211 #[.val (.int p0), .val (.int p1), .val (.int nn), .val (.int v0), .val (.int v1), .val (.int v2), .val (.int v3), .val (.int v4), .val (.ref b796), .val (.ref rr), .val (.int (own_f (0 : Int32) nn v0)), .val (.int (own_f (1 : Int32) nn v1)), .unset, .unset, .unset, .unset, .unset, .unset, .unset, .unset, .unset, .unset, .unset, .unset, .unset] [(.int (0 : Int32))])) := fun tq kq => G834 tq (by
            refine XS.ifYes Xc.here hx rfl (pc0 := 203) (pc' := 210) rfl (hb hby at_203) rfl ((if0 _ _).trans (feq hc835).2) (by decide) (by decide) ?_
            show Steps p.tables e below (Tc.setTop (mkF m 210 #[.val (.int p0), .val (.int p1), .val (.int nn), .val (.int v0), .val (.int v1), .val (.int v2), .val (.int v3), .val (.int v4), .val (.ref b796), .val (.ref rr), .val (.int (own_f (0 : Int32) nn v0)), .val (.int (own_f (1 : Int32) nn v1)), .unset, .unset, .unset, .unset, .unset, .unset, .unset, .unset, .unset, .unset, .unset, .unset, .unset] [])) _
            refine XS.iconst Xc.here hx rfl (hb hby at_210) ?_
            show Steps p.tables e below (Tc.setTop (mkF m 211 #[.val (.int p0), .val (.int p1), .val (.int nn), .val (.int v0), .val (.int v1), .val (.int v2), .val (.int v3), .val (.int v4), .val (.ref b796), .val (.ref rr), .val (.int (own_f (0 : Int32) nn v0)), .val (.int (own_f (1 : Int32) nn v1)), .unset, .unset, .unset, .unset, .unset, .unset, .unset, .unset, .unset, .unset, .unset, .unset, .unset] [(.int (0 : Int32))])) _
            exact kq)
          exact ⟨(0 : Int32), (by simp only [own_b, own_f, hc833, hc835, not_true_eq_false, not_false_eq_true, if_true, if_false, or_true, true_or, or_false, false_or, and_true, true_and, and_false, false_and, and_self, or_self]), G837⟩
      · have G838 : Go p e below A0 (Tc.setTop (mkF m 211 #[.val (.int p0), .val (.int p1), .val (.int nn), .val (.int v0), .val (.int v1), .val (.int v2), .val (.int v3), .val (.int v4), .val (.ref b796), .val (.ref rr), .val (.int (own_f (0 : Int32) nn v0)), .val (.int (own_f (1 : Int32) nn v1)), .unset, .unset, .unset, .unset, .unset, .unset, .unset, .unset, .unset, .unset, .unset, .unset, .unset] [(.int (0 : Int32))])) := fun tq kq => G832 tq (by
          refine XS.icmpYes Xc.here hx rfl (pc0 := 198) (pc' := 210) rfl (hb hby at_198) rfl (flt hc833).2.2.2 (by decide) (by decide) ?_
          show Steps p.tables e below (Tc.setTop (mkF m 210 #[.val (.int p0), .val (.int p1), .val (.int nn), .val (.int v0), .val (.int v1), .val (.int v2), .val (.int v3), .val (.int v4), .val (.ref b796), .val (.ref rr), .val (.int (own_f (0 : Int32) nn v0)), .val (.int (own_f (1 : Int32) nn v1)), .unset, .unset, .unset, .unset, .unset, .unset, .unset, .unset, .unset, .unset, .unset, .unset, .unset] [])) _
          refine XS.iconst Xc.here hx rfl (hb hby at_210) ?_
          show Steps p.tables e below (Tc.setTop (mkF m 211 #[.val (.int p0), .val (.int p1), .val (.int nn), .val (.int v0), .val (.int v1), .val (.int v2), .val (.int v3), .val (.int v4), .val (.ref b796), .val (.ref rr), .val (.int (own_f (0 : Int32) nn v0)), .val (.int (own_f (1 : Int32) nn v1)), .unset, .unset, .unset, .unset, .unset, .unset, .unset, .unset, .unset, .unset, .unset, .unset, .unset] [(.int (0 : Int32))])) _
          exact kq)
        exact ⟨(0 : Int32), (by simp only [own_b, own_f, hc833, not_true_eq_false, not_false_eq_true, if_true, if_false, or_true, true_or, or_false, false_or, and_true, true_and, and_false, false_and, and_self, or_self]), G838⟩
    subst hG831
    have G839 : Go p e below A0 (Tc.setTop (mkF m 213 #[.val (.int p0), .val (.int p1), .val (.int nn), .val (.int v0), .val (.int v1), .val (.int v2), .val (.int v3), .val (.int v4), .val (.ref b796), .val (.ref rr), .val (.int (own_f (0 : Int32) nn v0)), .val (.int (own_f (1 : Int32) nn v1)), .val (.int (own_f (2 : Int32) nn v2)), .unset, .unset, .unset, .unset, .unset, .unset, .unset, .unset, .unset, .unset, .unset, .unset] [])) := fun tq kq => G831 tq (by
      refine XS.istore Xc.here hx rfl (hb hby at_211) rfl (l' := #[.val (.int p0), .val (.int p1), .val (.int nn), .val (.int v0), .val (.int v1), .val (.int v2), .val (.int v3), .val (.int v4), .val (.ref b796), .val (.ref rr), .val (.int (own_f (0 : Int32) nn v0)), .val (.int (own_f (1 : Int32) nn v1)), .val (.int (own_f (2 : Int32) nn v2)), .unset, .unset, .unset, .unset, .unset, .unset, .unset, .unset, .unset, .unset, .unset, .unset]) rfl ?_
      show Steps p.tables e below (Tc.setTop (mkF m 213 #[.val (.int p0), .val (.int p1), .val (.int nn), .val (.int v0), .val (.int v1), .val (.int v2), .val (.int v3), .val (.int v4), .val (.ref b796), .val (.ref rr), .val (.int (own_f (0 : Int32) nn v0)), .val (.int (own_f (1 : Int32) nn v1)), .val (.int (own_f (2 : Int32) nn v2)), .unset, .unset, .unset, .unset, .unset, .unset, .unset, .unset, .unset, .unset, .unset, .unset] [])) _
      exact kq)
    obtain ⟨f3, hG840, G840⟩ : ∃ (f3 : Int32), (f3 = (own_f (3 : Int32) nn v3)) ∧ Go p e below A0 (Tc.setTop (mkF m 228 #[.val (.int p0), .val (.int p1), .val (.int nn), .val (.int v0), .val (.int v1), .val (.int v2), .val (.int v3), .val (.int v4), .val (.ref b796), .val (.ref rr), .val (.int (own_f (0 : Int32) nn v0)), .val (.int (own_f (1 : Int32) nn v1)), .val (.int (own_f (2 : Int32) nn v2)), .unset, .unset, .unset, .unset, .unset, .unset, .unset, .unset, .unset, .unset, .unset, .unset] [(.int f3)])) := by
      have G841 : Go p e below A0 (Tc.setTop (mkF m 215 #[.val (.int p0), .val (.int p1), .val (.int nn), .val (.int v0), .val (.int v1), .val (.int v2), .val (.int v3), .val (.int v4), .val (.ref b796), .val (.ref rr), .val (.int (own_f (0 : Int32) nn v0)), .val (.int (own_f (1 : Int32) nn v1)), .val (.int (own_f (2 : Int32) nn v2)), .unset, .unset, .unset, .unset, .unset, .unset, .unset, .unset, .unset, .unset, .unset, .unset] [(.int (3 : Int32)), (.int nn)])) := fun tq kq => G839 tq (by
        refine XS.iloadN Xc.here hx rfl (hb hby at_213) rfl ?_
        show Steps p.tables e below (Tc.setTop (mkF m 214 #[.val (.int p0), .val (.int p1), .val (.int nn), .val (.int v0), .val (.int v1), .val (.int v2), .val (.int v3), .val (.int v4), .val (.ref b796), .val (.ref rr), .val (.int (own_f (0 : Int32) nn v0)), .val (.int (own_f (1 : Int32) nn v1)), .val (.int (own_f (2 : Int32) nn v2)), .unset, .unset, .unset, .unset, .unset, .unset, .unset, .unset, .unset, .unset, .unset, .unset] [(.int nn)])) _
        refine XS.iconst Xc.here hx rfl (hb hby at_214) ?_
        show Steps p.tables e below (Tc.setTop (mkF m 215 #[.val (.int p0), .val (.int p1), .val (.int nn), .val (.int v0), .val (.int v1), .val (.int v2), .val (.int v3), .val (.int v4), .val (.ref b796), .val (.ref rr), .val (.int (own_f (0 : Int32) nn v0)), .val (.int (own_f (1 : Int32) nn v1)), .val (.int (own_f (2 : Int32) nn v2)), .unset, .unset, .unset, .unset, .unset, .unset, .unset, .unset, .unset, .unset, .unset, .unset] [(.int (3 : Int32)), (.int nn)])) _
        exact kq)
      by_cases hc842 : (3 : Int32) < nn
      · have G843 : Go p e below A0 (Tc.setTop (mkF m 220 #[.val (.int p0), .val (.int p1), .val (.int nn), .val (.int v0), .val (.int v1), .val (.int v2), .val (.int v3), .val (.int v4), .val (.ref b796), .val (.ref rr), .val (.int (own_f (0 : Int32) nn v0)), .val (.int (own_f (1 : Int32) nn v1)), .val (.int (own_f (2 : Int32) nn v2)), .unset, .unset, .unset, .unset, .unset, .unset, .unset, .unset, .unset, .unset, .unset, .unset] [(.int v3)])) := fun tq kq => G841 tq (by
          refine XS.icmpNo Xc.here hx rfl (hb hby at_215) rfl (tlt hc842).2.2.2 ?_
          show Steps p.tables e below (Tc.setTop (mkF m 218 #[.val (.int p0), .val (.int p1), .val (.int nn), .val (.int v0), .val (.int v1), .val (.int v2), .val (.int v3), .val (.int v4), .val (.ref b796), .val (.ref rr), .val (.int (own_f (0 : Int32) nn v0)), .val (.int (own_f (1 : Int32) nn v1)), .val (.int (own_f (2 : Int32) nn v2)), .unset, .unset, .unset, .unset, .unset, .unset, .unset, .unset, .unset, .unset, .unset, .unset] [])) _
          refine XS.iload Xc.here hx rfl (hb hby at_218) rfl ?_
          show Steps p.tables e below (Tc.setTop (mkF m 220 #[.val (.int p0), .val (.int p1), .val (.int nn), .val (.int v0), .val (.int v1), .val (.int v2), .val (.int v3), .val (.int v4), .val (.ref b796), .val (.ref rr), .val (.int (own_f (0 : Int32) nn v0)), .val (.int (own_f (1 : Int32) nn v1)), .val (.int (own_f (2 : Int32) nn v2)), .unset, .unset, .unset, .unset, .unset, .unset, .unset, .unset, .unset, .unset, .unset, .unset] [(.int v3)])) _
          exact kq)
        by_cases hc844 : v3 = (0 : Int32)
        · have G845 : Go p e below A0 (Tc.setTop (mkF m 228 #[.val (.int p0), .val (.int p1), .val (.int nn), .val (.int v0), .val (.int v1), .val (.int v2), .val (.int v3), .val (.int v4), .val (.ref b796), .val (.ref rr), .val (.int (own_f (0 : Int32) nn v0)), .val (.int (own_f (1 : Int32) nn v1)), .val (.int (own_f (2 : Int32) nn v2)), .unset, .unset, .unset, .unset, .unset, .unset, .unset, .unset, .unset, .unset, .unset, .unset] [(.int (1 : Int32))])) := fun tq kq => G843 tq (by
            refine XS.ifNo Xc.here hx rfl (hb hby at_220) rfl ((if0 _ _).trans (teq hc844).2) ?_
            show Steps p.tables e below (Tc.setTop (mkF m 223 #[.val (.int p0), .val (.int p1), .val (.int nn), .val (.int v0), .val (.int v1), .val (.int v2), .val (.int v3), .val (.int v4), .val (.ref b796), .val (.ref rr), .val (.int (own_f (0 : Int32) nn v0)), .val (.int (own_f (1 : Int32) nn v1)), .val (.int (own_f (2 : Int32) nn v2)), .unset, .unset, .unset, .unset, .unset, .unset, .unset, .unset, .unset, .unset, .unset, .unset] [])) _
            refine XS.iconst Xc.here hx rfl (hb hby at_223) ?_
            show Steps p.tables e below (Tc.setTop (mkF m 224 #[.val (.int p0), .val (.int p1), .val (.int nn), .val (.int v0), .val (.int v1), .val (.int v2), .val (.int v3), .val (.int v4), .val (.ref b796), .val (.ref rr), .val (.int (own_f (0 : Int32) nn v0)), .val (.int (own_f (1 : Int32) nn v1)), .val (.int (own_f (2 : Int32) nn v2)), .unset, .unset, .unset, .unset, .unset, .unset, .unset, .unset, .unset, .unset, .unset, .unset] [(.int (1 : Int32))])) _
            refine XS.goto Xc.here hx rfl (pc0 := 224) (pc' := 228) rfl (hb hby at_224) (by decide) (by decide) ?_
            show Steps p.tables e below (Tc.setTop (mkF m 228 #[.val (.int p0), .val (.int p1), .val (.int nn), .val (.int v0), .val (.int v1), .val (.int v2), .val (.int v3), .val (.int v4), .val (.ref b796), .val (.ref rr), .val (.int (own_f (0 : Int32) nn v0)), .val (.int (own_f (1 : Int32) nn v1)), .val (.int (own_f (2 : Int32) nn v2)), .unset, .unset, .unset, .unset, .unset, .unset, .unset, .unset, .unset, .unset, .unset, .unset] [(.int (1 : Int32))])) _
            exact kq)
          exact ⟨(1 : Int32), (by simp only [own_b, own_f, hc842, hc844, not_true_eq_false, not_false_eq_true, if_true, if_false, or_true, true_or, or_false, false_or, and_true, true_and, and_false, false_and, and_self, or_self]), G845⟩
        · have G846 : Go p e below A0 (Tc.setTop (mkF m 228 #[.val (.int p0), .val (.int p1), .val (.int nn), .val (.int v0), .val (.int v1), .val (.int v2), .val (.int v3), .val (.int v4), .val (.ref b796), .val (.ref rr), .val (.int (own_f (0 : Int32) nn v0)), .val (.int (own_f (1 : Int32) nn v1)), .val (.int (own_f (2 : Int32) nn v2)), .unset, .unset, .unset, .unset, .unset, .unset, .unset, .unset, .unset, .unset, .unset, .unset] [(.int (0 : Int32))])) := fun tq kq => G843 tq (by
            refine XS.ifYes Xc.here hx rfl (pc0 := 220) (pc' := 227) rfl (hb hby at_220) rfl ((if0 _ _).trans (feq hc844).2) (by decide) (by decide) ?_
            show Steps p.tables e below (Tc.setTop (mkF m 227 #[.val (.int p0), .val (.int p1), .val (.int nn), .val (.int v0), .val (.int v1), .val (.int v2), .val (.int v3), .val (.int v4), .val (.ref b796), .val (.ref rr), .val (.int (own_f (0 : Int32) nn v0)), .val (.int (own_f (1 : Int32) nn v1)), .val (.int (own_f (2 : Int32) nn v2)), .unset, .unset, .unset, .unset, .unset, .unset, .unset, .unset, .unset, .unset, .unset, .unset] [])) _
            refine XS.iconst Xc.here hx rfl (hb hby at_227) ?_
            show Steps p.tables e below (Tc.setTop (mkF m 228 #[.val (.int p0), .val (.int p1), .val (.int nn), .val (.int v0), .val (.int v1), .val (.int v2), .val (.int v3), .val (.int v4), .val (.ref b796), .val (.ref rr), .val (.int (own_f (0 : Int32) nn v0)), .val (.int (own_f (1 : Int32) nn v1)), .val (.int (own_f (2 : Int32) nn v2)), .unset, .unset, .unset, .unset, .unset, .unset, .unset, .unset, .unset, .unset, .unset, .unset] [(.int (0 : Int32))])) _
            exact kq)
          exact ⟨(0 : Int32), (by simp only [own_b, own_f, hc842, hc844, not_true_eq_false, not_false_eq_true, if_true, if_false, or_true, true_or, or_false, false_or, and_true, true_and, and_false, false_and, and_self, or_self]), G846⟩
      · have G847 : Go p e below A0 (Tc.setTop (mkF m 228 #[.val (.int p0), .val (.int p1), .val (.int nn), .val (.int v0), .val (.int v1), .val (.int v2), .val (.int v3), .val (.int v4), .val (.ref b796), .val (.ref rr), .val (.int (own_f (0 : Int32) nn v0)), .val (.int (own_f (1 : Int32) nn v1)), .val (.int (own_f (2 : Int32) nn v2)), .unset, .unset, .unset, .unset, .unset, .unset, .unset, .unset, .unset, .unset, .unset, .unset] [(.int (0 : Int32))])) := fun tq kq => G841 tq (by
          refine XS.icmpYes Xc.here hx rfl (pc0 := 215) (pc' := 227) rfl (hb hby at_215) rfl (flt hc842).2.2.2 (by decide) (by decide) ?_
          show Steps p.tables e below (Tc.setTop (mkF m 227 #[.val (.int p0), .val (.int p1), .val (.int nn), .val (.int v0), .val (.int v1), .val (.int v2), .val (.int v3), .val (.int v4), .val (.ref b796), .val (.ref rr), .val (.int (own_f (0 : Int32) nn v0)), .val (.int (own_f (1 : Int32) nn v1)), .val (.int (own_f (2 : Int32) nn v2)), .unset, .unset, .unset, .unset, .unset, .unset, .unset, .unset, .unset, .unset, .unset, .unset] [])) _
          refine XS.iconst Xc.here hx rfl (hb hby at_227) ?_
          show Steps p.tables e below (Tc.setTop (mkF m 228 #[.val (.int p0), .val (.int p1), .val (.int nn), .val (.int v0), .val (.int v1), .val (.int v2), .val (.int v3), .val (.int v4), .val (.ref b796), .val (.ref rr), .val (.int (own_f (0 : Int32) nn v0)), .val (.int (own_f (1 : Int32) nn v1)), .val (.int (own_f (2 : Int32) nn v2)), .unset, .unset, .unset, .unset, .unset, .unset, .unset, .unset, .unset, .unset, .unset, .unset] [(.int (0 : Int32))])) _
          exact kq)
        exact ⟨(0 : Int32), (by simp only [own_b, own_f, hc842, not_true_eq_false, not_false_eq_true, if_true, if_false, or_true, true_or, or_false, false_or, and_true, true_and, and_false, false_and, and_self, or_self]), G847⟩
    subst hG840
    have G848 : Go p e below A0 (Tc.setTop (mkF m 230 #[.val (.int p0), .val (.int p1), .val (.int nn), .val (.int v0), .val (.int v1), .val (.int v2), .val (.int v3), .val (.int v4), .val (.ref b796), .val (.ref rr), .val (.int (own_f (0 : Int32) nn v0)), .val (.int (own_f (1 : Int32) nn v1)), .val (.int (own_f (2 : Int32) nn v2)), .val (.int (own_f (3 : Int32) nn v3)), .unset, .unset, .unset, .unset, .unset, .unset, .unset, .unset, .unset, .unset, .unset] [])) := fun tq kq => G840 tq (by
      refine XS.istore Xc.here hx rfl (hb hby at_228) rfl (l' := #[.val (.int p0), .val (.int p1), .val (.int nn), .val (.int v0), .val (.int v1), .val (.int v2), .val (.int v3), .val (.int v4), .val (.ref b796), .val (.ref rr), .val (.int (own_f (0 : Int32) nn v0)), .val (.int (own_f (1 : Int32) nn v1)), .val (.int (own_f (2 : Int32) nn v2)), .val (.int (own_f (3 : Int32) nn v3)), .unset, .unset, .unset, .unset, .unset, .unset, .unset, .unset, .unset, .unset, .unset]) rfl ?_
      show Steps p.tables e below (Tc.setTop (mkF m 230 #[.val (.int p0), .val (.int p1), .val (.int nn), .val (.int v0), .val (.int v1), .val (.int v2), .val (.int v3), .val (.int v4), .val (.ref b796), .val (.ref rr), .val (.int (own_f (0 : Int32) nn v0)), .val (.int (own_f (1 : Int32) nn v1)), .val (.int (own_f (2 : Int32) nn v2)), .val (.int (own_f (3 : Int32) nn v3)), .unset, .unset, .unset, .unset, .unset, .unset, .unset, .unset, .unset, .unset, .unset] [])) _
      exact kq)
    obtain ⟨f4, hG849, G849⟩ : ∃ (f4 : Int32), (f4 = (own_f (4 : Int32) nn v4)) ∧ Go p e below A0 (Tc.setTop (mkF m 245 #[.val (.int p0), .val (.int p1), .val (.int nn), .val (.int v0), .val (.int v1), .val (.int v2), .val (.int v3), .val (.int v4), .val (.ref b796), .val (.ref rr), .val (.int (own_f (0 : Int32) nn v0)), .val (.int (own_f (1 : Int32) nn v1)), .val (.int (own_f (2 : Int32) nn v2)), .val (.int (own_f (3 : Int32) nn v3)), .unset, .unset, .unset, .unset, .unset, .unset, .unset, .unset, .unset, .unset, .unset] [(.int f4)])) := by
      have G850 : Go p e below A0 (Tc.setTop (mkF m 232 #[.val (.int p0), .val (.int p1), .val (.int nn), .val (.int v0), .val (.int v1), .val (.int v2), .val (.int v3), .val (.int v4), .val (.ref b796), .val (.ref rr), .val (.int (own_f (0 : Int32) nn v0)), .val (.int (own_f (1 : Int32) nn v1)), .val (.int (own_f (2 : Int32) nn v2)), .val (.int (own_f (3 : Int32) nn v3)), .unset, .unset, .unset, .unset, .unset, .unset, .unset, .unset, .unset, .unset, .unset] [(.int (4 : Int32)), (.int nn)])) := fun tq kq => G848 tq (by
        refine XS.iloadN Xc.here hx rfl (hb hby at_230) rfl ?_
        show Steps p.tables e below (Tc.setTop (mkF m 231 #[.val (.int p0), .val (.int p1), .val (.int nn), .val (.int v0), .val (.int v1), .val (.int v2), .val (.int v3), .val (.int v4), .val (.ref b796), .val (.ref rr), .val (.int (own_f (0 : Int32) nn v0)), .val (.int (own_f (1 : Int32) nn v1)), .val (.int (own_f (2 : Int32) nn v2)), .val (.int (own_f (3 : Int32) nn v3)), .unset, .unset, .unset, .unset, .unset, .unset, .unset, .unset, .unset, .unset, .unset] [(.int nn)])) _
        refine XS.iconst Xc.here hx rfl (hb hby at_231) ?_
        show Steps p.tables e below (Tc.setTop (mkF m 232 #[.val (.int p0), .val (.int p1), .val (.int nn), .val (.int v0), .val (.int v1), .val (.int v2), .val (.int v3), .val (.int v4), .val (.ref b796), .val (.ref rr), .val (.int (own_f (0 : Int32) nn v0)), .val (.int (own_f (1 : Int32) nn v1)), .val (.int (own_f (2 : Int32) nn v2)), .val (.int (own_f (3 : Int32) nn v3)), .unset, .unset, .unset, .unset, .unset, .unset, .unset, .unset, .unset, .unset, .unset] [(.int (4 : Int32)), (.int nn)])) _
        exact kq)
      by_cases hc851 : (4 : Int32) < nn
      · have G852 : Go p e below A0 (Tc.setTop (mkF m 237 #[.val (.int p0), .val (.int p1), .val (.int nn), .val (.int v0), .val (.int v1), .val (.int v2), .val (.int v3), .val (.int v4), .val (.ref b796), .val (.ref rr), .val (.int (own_f (0 : Int32) nn v0)), .val (.int (own_f (1 : Int32) nn v1)), .val (.int (own_f (2 : Int32) nn v2)), .val (.int (own_f (3 : Int32) nn v3)), .unset, .unset, .unset, .unset, .unset, .unset, .unset, .unset, .unset, .unset, .unset] [(.int v4)])) := fun tq kq => G850 tq (by
          refine XS.icmpNo Xc.here hx rfl (hb hby at_232) rfl (tlt hc851).2.2.2 ?_
          show Steps p.tables e below (Tc.setTop (mkF m 235 #[.val (.int p0), .val (.int p1), .val (.int nn), .val (.int v0), .val (.int v1), .val (.int v2), .val (.int v3), .val (.int v4), .val (.ref b796), .val (.ref rr), .val (.int (own_f (0 : Int32) nn v0)), .val (.int (own_f (1 : Int32) nn v1)), .val (.int (own_f (2 : Int32) nn v2)), .val (.int (own_f (3 : Int32) nn v3)), .unset, .unset, .unset, .unset, .unset, .unset, .unset, .unset, .unset, .unset, .unset] [])) _
          refine XS.iload Xc.here hx rfl (hb hby at_235) rfl ?_
          show Steps p.tables e below (Tc.setTop (mkF m 237 #[.val (.int p0), .val (.int p1), .val (.int nn), .val (.int v0), .val (.int v1), .val (.int v2), .val (.int v3), .val (.int v4), .val (.ref b796), .val (.ref rr), .val (.int (own_f (0 : Int32) nn v0)), .val (.int (own_f (1 : Int32) nn v1)), .val (.int (own_f (2 : Int32) nn v2)), .val (.int (own_f (3 : Int32) nn v3)), .unset, .unset, .unset, .unset, .unset, .unset, .unset, .unset, .unset, .unset, .unset] [(.int v4)])) _
          exact kq)
        by_cases hc853 : v4 = (0 : Int32)
        · have G854 : Go p e below A0 (Tc.setTop (mkF m 245 #[.val (.int p0), .val (.int p1), .val (.int nn), .val (.int v0), .val (.int v1), .val (.int v2), .val (.int v3), .val (.int v4), .val (.ref b796), .val (.ref rr), .val (.int (own_f (0 : Int32) nn v0)), .val (.int (own_f (1 : Int32) nn v1)), .val (.int (own_f (2 : Int32) nn v2)), .val (.int (own_f (3 : Int32) nn v3)), .unset, .unset, .unset, .unset, .unset, .unset, .unset, .unset, .unset, .unset, .unset] [(.int (1 : Int32))])) := fun tq kq => G852 tq (by
            refine XS.ifNo Xc.here hx rfl (hb hby at_237) rfl ((if0 _ _).trans (teq hc853).2) ?_
            show Steps p.tables e below (Tc.setTop (mkF m 240 #[.val (.int p0), .val (.int p1), .val (.int nn), .val (.int v0), .val (.int v1), .val (.int v2), .val (.int v3), .val (.int v4), .val (.ref b796), .val (.ref rr), .val (.int (own_f (0 : Int32) nn v0)), .val (.int (own_f (1 : Int32) nn v1)), .val (.int (own_f (2 : Int32) nn v2)), .val (.int (own_f (3 : Int32) nn v3)), .unset, .unset, .unset, .unset, .unset, .unset, .unset, .unset, .unset, .unset, .unset] [])) _
            refine XS.iconst Xc.here hx rfl (hb hby at_240) ?_
            show Steps p.tables e below (Tc.setTop (mkF m 241 #[.val (.int p0), .val (.int p1), .val (.int nn), .val (.int v0), .val (.int v1), .val (.int v2), .val (.int v3), .val (.int v4), .val (.ref b796), .val (.ref rr), .val (.int (own_f (0 : Int32) nn v0)), .val (.int (own_f (1 : Int32) nn v1)), .val (.int (own_f (2 : Int32) nn v2)), .val (.int (own_f (3 : Int32) nn v3)), .unset, .unset, .unset, .unset, .unset, .unset, .unset, .unset, .unset, .unset, .unset] [(.int (1 : Int32))])) _
            refine XS.goto Xc.here hx rfl (pc0 := 241) (pc' := 245) rfl (hb hby at_241) (by decide) (by decide) ?_
            show Steps p.tables e below (Tc.setTop (mkF m 245 #[.val (.int p0), .val (.int p1), .val (.int nn), .val (.int v0), .val (.int v1), .val (.int v2), .val (.int v3), .val (.int v4), .val (.ref b796), .val (.ref rr), .val (.int (own_f (0 : Int32) nn v0)), .val (.int (own_f (1 : Int32) nn v1)), .val (.int (own_f (2 : Int32) nn v2)), .val (.int (own_f (3 : Int32) nn v3)), .unset, .unset, .unset, .unset, .unset, .unset, .unset, .unset, .unset, .unset, .unset] [(.int (1 : Int32))])) _
            exact kq)
          exact ⟨(1 : Int32), (by simp only [own_b, own_f, hc851, hc853, not_true_eq_false, not_false_eq_true, if_true, if_false, or_true, true_or, or_false, false_or, and_true, true_and, and_false, false_and, and_self, or_self]), G854⟩
        · have G855 : Go p e below A0 (Tc.setTop (mkF m 245 #[.val (.int p0), .val (.int p1), .val (.int nn), .val (.int v0), .val (.int v1), .val (.int v2), .val (.int v3), .val (.int v4), .val (.ref b796), .val (.ref rr), .val (.int (own_f (0 : Int32) nn v0)), .val (.int (own_f (1 : Int32) nn v1)), .val (.int (own_f (2 : Int32) nn v2)), .val (.int (own_f (3 : Int32) nn v3)), .unset, .unset, .unset, .unset, .unset, .unset, .unset, .unset, .unset, .unset, .unset] [(.int (0 : Int32))])) := fun tq kq => G852 tq (by
            refine XS.ifYes Xc.here hx rfl (pc0 := 237) (pc' := 244) rfl (hb hby at_237) rfl ((if0 _ _).trans (feq hc853).2) (by decide) (by decide) ?_
            show Steps p.tables e below (Tc.setTop (mkF m 244 #[.val (.int p0), .val (.int p1), .val (.int nn), .val (.int v0), .val (.int v1), .val (.int v2), .val (.int v3), .val (.int v4), .val (.ref b796), .val (.ref rr), .val (.int (own_f (0 : Int32) nn v0)), .val (.int (own_f (1 : Int32) nn v1)), .val (.int (own_f (2 : Int32) nn v2)), .val (.int (own_f (3 : Int32) nn v3)), .unset, .unset, .unset, .unset, .unset, .unset, .unset, .unset, .unset, .unset, .unset] [])) _
            refine XS.iconst Xc.here hx rfl (hb hby at_244) ?_
            show Steps p.tables e below (Tc.setTop (mkF m 245 #[.val (.int p0), .val (.int p1), .val (.int nn), .val (.int v0), .val (.int v1), .val (.int v2), .val (.int v3), .val (.int v4), .val (.ref b796), .val (.ref rr), .val (.int (own_f (0 : Int32) nn v0)), .val (.int (own_f (1 : Int32) nn v1)), .val (.int (own_f (2 : Int32) nn v2)), .val (.int (own_f (3 : Int32) nn v3)), .unset, .unset, .unset, .unset, .unset, .unset, .unset, .unset, .unset, .unset, .unset] [(.int (0 : Int32))])) _
            exact kq)
          exact ⟨(0 : Int32), (by simp only [own_b, own_f, hc851, hc853, not_true_eq_false, not_false_eq_true, if_true, if_false, or_true, true_or, or_false, false_or, and_true, true_and, and_false, false_and, and_self, or_self]), G855⟩
      · have G856 : Go p e below A0 (Tc.setTop (mkF m 245 #[.val (.int p0), .val (.int p1), .val (.int nn), .val (.int v0), .val (.int v1), .val (.int v2), .val (.int v3), .val (.int v4), .val (.ref b796), .val (.ref rr), .val (.int (own_f (0 : Int32) nn v0)), .val (.int (own_f (1 : Int32) nn v1)), .val (.int (own_f (2 : Int32) nn v2)), .val (.int (own_f (3 : Int32) nn v3)), .unset, .unset, .unset, .unset, .unset, .unset, .unset, .unset, .unset, .unset, .unset] [(.int (0 : Int32))])) := fun tq kq => G850 tq (by
          refine XS.icmpYes Xc.here hx rfl (pc0 := 232) (pc' := 244) rfl (hb hby at_232) rfl (flt hc851).2.2.2 (by decide) (by decide) ?_
          show Steps p.tables e below (Tc.setTop (mkF m 244 #[.val (.int p0), .val (.int p1), .val (.int nn), .val (.int v0), .val (.int v1), .val (.int v2), .val (.int v3), .val (.int v4), .val (.ref b796), .val (.ref rr), .val (.int (own_f (0 : Int32) nn v0)), .val (.int (own_f (1 : Int32) nn v1)), .val (.int (own_f (2 : Int32) nn v2)), .val (.int (own_f (3 : Int32) nn v3)), .unset, .unset, .unset, .unset, .unset, .unset, .unset, .unset, .unset, .unset, .unset] [])) _
          refine XS.iconst Xc.here hx rfl (hb hby at_244) ?_
          show Steps p.tables e below (Tc.setTop (mkF m 245 #[.val (.int p0), .val (.int p1), .val (.int nn), .val (.int v0), .val (.int v1), .val (.int v2), .val (.int v3), .val (.int v4), .val (.ref b796), .val (.ref rr), .val (.int (own_f (0 : Int32) nn v0)), .val (.int (own_f (1 : Int32) nn v1)), .val (.int (own_f (2 : Int32) nn v2)), .val (.int (own_f (3 : Int32) nn v3)), .unset, .unset, .unset, .unset, .unset, .unset, .unset, .unset, .unset, .unset, .unset] [(.int (0 : Int32))])) _
          exact kq)
        exact ⟨(0 : Int32), (by simp only [own_b, own_f, hc851, not_true_eq_false, not_false_eq_true, if_true, if_false, or_true, true_or, or_false, false_or, and_true, true_and, and_false, false_and, and_self, or_self]), G856⟩
    subst hG849
    have G857 : Go p e below A0 (Tc.setTop (mkF m 247 #[.val (.int p0), .val (.int p1), .val (.int nn), .val (.int v0), .val (.int v1), .val (.int v2), .val (.int v3), .val (.int v4), .val (.ref b796), .val (.ref rr), .val (.int (own_f (0 : Int32) nn v0)), .val (.int (own_f (1 : Int32) nn v1)), .val (.int (own_f (2 : Int32) nn v2)), .val (.int (own_f (3 : Int32) nn v3)), .val (.int (own_f (4 : Int32) nn v4)), .unset, .unset, .unset, .unset, .unset, .unset, .unset, .unset, .unset, .unset] [])) := fun tq kq => G849 tq (by
      refine XS.istore Xc.here hx rfl (hb hby at_245) rfl (l' := #[.val (.int p0), .val (.int p1), .val (.int nn), .val (.int v0), .val (.int v1), .val (.int v2), .val (.int v3), .val (.int v4), .val (.ref b796), .val (.ref rr), .val (.int (own_f (0 : Int32) nn v0)), .val (.int (own_f (1 : Int32) nn v1)), .val (.int (own_f (2 : Int32) nn v2)), .val (.int (own_f (3 : Int32) nn v3)), .val (.int (own_f (4 : Int32) nn v4)), .unset, .unset, .unset, .unset, .unset, .unset, .unset, .unset, .unset, .unset]) rfl ?_
      show Steps p.tables e below (Tc.setTop (mkF m 247 #[.val (.int p0), .val (.int p1), .val (.int nn), .val (.int v0), .val (.int v1), .val (.int v2), .val (.int v3), .val (.int v4), .val (.ref b796), .val (.ref rr), .val (.int (own_f (0 : Int32) nn v0)), .val (.int (own_f (1 : Int32) nn v1)), .val (.int (own_f (2 : Int32) nn v2)), .val (.int (own_f (3 : Int32) nn v3)), .val (.int (own_f (4 : Int32) nn v4)), .unset, .unset, .unset, .unset, .unset, .unset, .unset, .unset, .unset, .unset] [])) _
      exact kq)
    obtain ⟨t0, hG858, G858⟩ : ∃ (t0 : Int32), (t0 = (own_t (0 : Int32) nn v0)) ∧ Go p e below A0 (Tc.setTop (mkF m 260 #[.val (.int p0), .val (.int p1), .val (.int nn), .val (.int v0), .val (.int v1), .val (.int v2), .val (.int v3), .val (.int v4), .val (.ref b796), .val (.ref rr), .val (.int (own_f (0 : Int32) nn v0)), .val (.int (own_f (1 : Int32) nn v1)), .val (.int (own_f (2 : Int32) nn v2)), .val (.int (own_f (3 : Int32) nn v3)), .val (.int (own_f (4 : Int32) nn v4)), .unset, .unset, .unset, .unset, .unset, .unset, .unset, .unset, .unset, .unset] [(.int t0)])) := by
      have G859 : Go p e below A0 (Tc.setTop (mkF m 248 #[.val (.int p0), .val (.int p1), .val (.int nn), .val (.int v0), .val (.int v1), .val (.int v2), .val (.int v3), .val (.int v4), .val (.ref b796), .val (.ref rr), .val (.int (own_f (0 : Int32) nn v0)), .val (.int (own_f (1 : Int32) nn v1)), .val (.int (own_f (2 : Int32) nn v2)), .val (.int (own_f (3 : Int32) nn v3)), .val (.int (own_f (4 : Int32) nn v4)), .unset, .unset, .unset, .unset, .unset, .unset, .unset, .unset, .unset, .unset] [(.int nn)])) := fun tq kq => G857 tq (by
        refine XS.iloadN Xc.here hx rfl (hb hby at_247) rfl ?_
        show Steps p.tables e below (Tc.setTop (mkF m 248 #[.val (.int p0), .val (.int p1), .val (.int nn), .val (.int v0), .val (.int v1), .val (.int v2), .val (.int v3), .val (.int v4), .val (.ref b796), .val (.ref rr), .val (.int (own_f (0 : Int32) nn v0)), .val (.int (own_f (1 : Int32) nn v1)), .val (.int (own_f (2 : Int32) nn v2)), .val (.int (own_f (3 : Int32) nn v3)), .val (.int (own_f (4 : Int32) nn v4)), .unset, .unset, .unset, .unset, .unset, .unset, .unset, .unset, .unset, .unset] [(.int nn)])) _
        exact kq)
      by_cases hc860 : (0 : Int32) < nn
      · have G861 : Go p e below A0 (Tc.setTop (mkF m 252 #[.val (.int p0), .val (.int p1), .val (.int nn), .val (.int v0), .val (.int v1), .val (.int v2), .val (.int v3), .val (.int v4), .val (.ref b796), .val (.ref rr), .val (.int (own_f (0 : Int32) nn v0)), .val (.int (own_f (1 : Int32) nn v1)), .val (.int (own_f (2 : Int32) nn v2)), .val (.int (own_f (3 : Int32) nn v3)), .val (.int (own_f (4 : Int32) nn v4)), .unset, .unset, .unset, .unset, .unset, .unset, .unset, .unset, .unset, .unset] [(.int v0)])) := fun tq kq => G859 tq (by
          refine XS.ifNo Xc.here hx rfl (hb hby at_248) rfl ((if0 _ _).trans (tlt hc860).2.2.2) ?_
          show Steps p.tables e below (Tc.setTop (mkF m 251 #[.val (.int p0), .val (.int p1), .val (.int nn), .val (.int v0), .val (.int v1), .val (.int v2), .val (.int v3), .val (.int v4), .val (.ref b796), .val (.ref rr), .val (.int (own_f (0 : Int32) nn v0)), .val (.int (own_f (1 : Int32) nn v1)), .val (.int (own_f (2 : Int32) nn v2)), .val (.int (own_f (3 : Int32) nn v3)), .val (.int (own_f (4 : Int32) nn v4)), .unset, .unset, .unset, .unset, .unset, .unset, .unset, .unset, .unset, .unset] [])) _
          refine XS.iloadN Xc.here hx rfl (hb hby at_251) rfl ?_
          show Steps p.tables e below (Tc.setTop (mkF m 252 #[.val (.int p0), .val (.int p1), .val (.int nn), .val (.int v0), .val (.int v1), .val (.int v2), .val (.int v3), .val (.int v4), .val (.ref b796), .val (.ref rr), .val (.int (own_f (0 : Int32) nn v0)), .val (.int (own_f (1 : Int32) nn v1)), .val (.int (own_f (2 : Int32) nn v2)), .val (.int (own_f (3 : Int32) nn v3)), .val (.int (own_f (4 : Int32) nn v4)), .unset, .unset, .unset, .unset, .unset, .unset, .unset, .unset, .unset, .unset] [(.int v0)])) _
          exact kq)
        by_cases hc862 : v0 = (0 : Int32)
        · have G863 : Go p e below A0 (Tc.setTop (mkF m 260 #[.val (.int p0), .val (.int p1), .val (.int nn), .val (.int v0), .val (.int v1), .val (.int v2), .val (.int v3), .val (.int v4), .val (.ref b796), .val (.ref rr), .val (.int (own_f (0 : Int32) nn v0)), .val (.int (own_f (1 : Int32) nn v1)), .val (.int (own_f (2 : Int32) nn v2)), .val (.int (own_f (3 : Int32) nn v3)), .val (.int (own_f (4 : Int32) nn v4)), .unset, .unset, .unset, .unset, .unset, .unset, .unset, .unset, .unset, .unset] [(.int (0 : Int32))])) := fun tq kq => G861 tq (by
            refine XS.ifYes Xc.here hx rfl (pc0 := 252) (pc' := 259) rfl (hb hby at_252) rfl ((if0 _ _).trans (teq hc862).1) (by decide) (by decide) ?_
            show Steps p.tables e below (Tc.setTop (mkF m 259 #[.val (.int p0), .val (.int p1), .val (.int nn), .val (.int v0), .val (.int v1), .val (.int v2), .val (.int v3), .val (.int v4), .val (.ref b796), .val (.ref rr), .val (.int (own_f (0 : Int32) nn v0)), .val (.int (own_f (1 : Int32) nn v1)), .val (.int (own_f (2 : Int32) nn v2)), .val (.int (own_f (3 : Int32) nn v3)), .val (.int (own_f (4 : Int32) nn v4)), .unset, .unset, .unset, .unset, .unset, .unset, .unset, .unset, .unset, .unset] [])) _
            refine XS.iconst Xc.here hx rfl (hb hby at_259) ?_
            show Steps p.tables e below (Tc.setTop (mkF m 260 #[.val (.int p0), .val (.int p1), .val (.int nn), .val (.int v0), .val (.int v1), .val (.int v2), .val (.int v3), .val (.int v4), .val (.ref b796), .val (.ref rr), .val (.int (own_f (0 : Int32) nn v0)), .val (.int (own_f (1 : Int32) nn v1)), .val (.int (own_f (2 : Int32) nn v2)), .val (.int (own_f (3 : Int32) nn v3)), .val (.int (own_f (4 : Int32) nn v4)), .unset, .unset, .unset, .unset, .unset, .unset, .unset, .unset, .unset, .unset] [(.int (0 : Int32))])) _
            exact kq)
          exact ⟨(0 : Int32), (by simp only [own_b, own_t, hc860, hc862, not_true_eq_false, not_false_eq_true, if_true, if_false, or_true, true_or, or_false, false_or, and_true, true_and, and_false, false_and, and_self, or_self]), G863⟩
        · have G864 : Go p e below A0 (Tc.setTop (mkF m 260 #[.val (.int p0), .val (.int p1), .val (.int nn), .val (.int v0), .val (.int v1), .val (.int v2), .val (.int v3), .val (.int v4), .val (.ref b796), .val (.ref rr), .val (.int (own_f (0 : Int32) nn v0)), .val (.int (own_f (1 : Int32) nn v1)), .val (.int (own_f (2 : Int32) nn v2)), .val (.int (own_f (3 : Int32) nn v3)), .val (.int (own_f (4 : Int32) nn v4)), .unset, .unset, .unset, .unset, .unset, .unset, .unset, .unset, .unset, .unset] [(.int (1 : Int32))])) := fun tq kq => G861 tq (by
            refine XS.ifNo Xc.here hx rfl (hb hby at_252) rfl ((if0 _ _).trans (feq hc862).1) ?_
            show Steps p.tables e below (Tc.setTop (mkF m 255 #[.val (.int p0), .val (.int p1), .val (.int nn), .val (.int v0), .val (.int v1), .val (.int v2), .val (.int v3), .val (.int v4), .val (.ref b796), .val (.ref rr), .val (.int (own_f (0 : Int32) nn v0)), .val (.int (own_f (1 : Int32) nn v1)), .val (.int (own_f (2 : Int32) nn v2)), .val (.int (own_f (3 : Int32) nn v3)), .val (.int (own_f (4 : Int32) nn v4)), .unset, .unset, .unset, .unset, .unset, .unset, .unset, .unset, .unset, .unset] [])) _
            refine XS.iconst Xc.here hx rfl (hb hby at_255) ?_
            show Steps p.tables e below (Tc.setTop (mkF m 256 #[.val (.int p0), .val (.int p1), .val (.int nn), .val (.int v0), .val (.int v1), .val (.int v2), .val (.int v3), .val (.int v4), .val (.ref b796), .val (.ref rr), .val (.int (own_f (0 : Int32) nn v0)), .val (.int (own_f (1 : Int32) nn v1)), .val (.int (own_f (2 : Int32) nn v2)), .val (.int (own_f (3 : Int32) nn v3)), .val (.int (own_f (4 : Int32) nn v4)), .unset, .unset, .unset, .unset, .unset, .unset, .unset, .unset, .unset, .unset] [(.int (1 : Int32))])) _
            refine XS.goto Xc.here hx rfl (pc0 := 256) (pc' := 260) rfl (hb hby at_256) (by decide) (by decide) ?_
            show Steps p.tables e below (Tc.setTop (mkF m 260 #[.val (.int p0), .val (.int p1), .val (.int nn), .val (.int v0), .val (.int v1), .val (.int v2), .val (.int v3), .val (.int v4), .val (.ref b796), .val (.ref rr), .val (.int (own_f (0 : Int32) nn v0)), .val (.int (own_f (1 : Int32) nn v1)), .val (.int (own_f (2 : Int32) nn v2)), .val (.int (own_f (3 : Int32) nn v3)), .val (.int (own_f (4 : Int32) nn v4)), .unset, .unset, .unset, .unset, .unset, .unset, .unset, .unset, .unset, .unset] [(.int (1 : Int32))])) _
            exact kq)
          exact ⟨(1 : Int32), (by simp only [own_b, own_t, hc860, hc862, not_true_eq_false, not_false_eq_true, if_true, if_false, or_true, true_or, or_false, false_or, and_true, true_and, and_false, false_and, and_self, or_self]), G864⟩
      · have G865 : Go p e below A0 (Tc.setTop (mkF m 260 #[.val (.int p0), .val (.int p1), .val (.int nn), .val (.int v0), .val (.int v1), .val (.int v2), .val (.int v3), .val (.int v4), .val (.ref b796), .val (.ref rr), .val (.int (own_f (0 : Int32) nn v0)), .val (.int (own_f (1 : Int32) nn v1)), .val (.int (own_f (2 : Int32) nn v2)), .val (.int (own_f (3 : Int32) nn v3)), .val (.int (own_f (4 : Int32) nn v4)), .unset, .unset, .unset, .unset, .unset, .unset, .unset, .unset, .unset, .unset] [(.int (0 : Int32))])) := fun tq kq => G859 tq (by
          refine XS.ifYes Xc.here hx rfl (pc0 := 248) (pc' := 259) rfl (hb hby at_248) rfl ((if0 _ _).trans (flt hc860).2.2.2) (by decide) (by decide) ?_
          show Steps p.tables e below (Tc.setTop (mkF m 259 #[.val (.int p0), .val (.int p1), .val (.int nn), .val (.int v0), .val (.int v1), .val (.int v2), .val (.int v3), .val (.int v4), .val (.ref b796), .val (.ref rr), .val (.int (own_f (0 : Int32) nn v0)), .val (.int (own_f (1 : Int32) nn v1)), .val (.int (own_f (2 : Int32) nn v2)), .val (.int (own_f (3 : Int32) nn v3)), .val (.int (own_f (4 : Int32) nn v4)), .unset, .unset, .unset, .unset, .unset, .unset, .unset, .unset, .unset, .unset] [])) _
          refine XS.iconst Xc.here hx rfl (hb hby at_259) ?_
          show Steps p.tables e below (Tc.setTop (mkF m 260 #[.val (.int p0), .val (.int p1), .val (.int nn), .val (.int v0), .val (.int v1), .val (.int v2), .val (.int v3), .val (.int v4), .val (.ref b796), .val (.ref rr), .val (.int (own_f (0 : Int32) nn v0)), .val (.int (own_f (1 : Int32) nn v1)), .val (.int (own_f (2 : Int32) nn v2)), .val (.int (own_f (3 : Int32) nn v3)), .val (.int (own_f (4 : Int32) nn v4)), .unset, .unset, .unset, .unset, .unset, .unset, .unset, .unset, .unset, .unset] [(.int (0 : Int32))])) _
          exact kq)
        exact ⟨(0 : Int32), (by simp only [own_b, own_t, hc860, not_true_eq_false, not_false_eq_true, if_true, if_false, or_true, true_or, or_false, false_or, and_true, true_and, and_false, false_and, and_self, or_self]), G865⟩
    subst hG858
    have G866 : Go p e below A0 (Tc.setTop (mkF m 262 #[.val (.int p0), .val (.int p1), .val (.int nn), .val (.int v0), .val (.int v1), .val (.int v2), .val (.int v3), .val (.int v4), .val (.ref b796), .val (.ref rr), .val (.int (own_f (0 : Int32) nn v0)), .val (.int (own_f (1 : Int32) nn v1)), .val (.int (own_f (2 : Int32) nn v2)), .val (.int (own_f (3 : Int32) nn v3)), .val (.int (own_f (4 : Int32) nn v4)), .val (.int (own_t (0 : Int32) nn v0)), .unset, .unset, .unset, .unset, .unset, .unset, .unset, .unset, .unset] [])) := fun tq kq => G858 tq (by
      refine XS.istore Xc.here hx rfl (hb hby at_260) rfl (l' := #[.val (.int p0), .val (.int p1), .val (.int nn), .val (.int v0), .val (.int v1), .val (.int v2), .val (.int v3), .val (.int v4), .val (.ref b796), .val (.ref rr), .val (.int (own_f (0 : Int32) nn v0)), .val (.int (own_f (1 : Int32) nn v1)), .val (.int (own_f (2 : Int32) nn v2)), .val (.int (own_f (3 : Int32) nn v3)), .val (.int (own_f (4 : Int32) nn v4)), .val (.int (own_t (0 : Int32) nn v0)), .unset, .unset, .unset, .unset, .unset, .unset, .unset, .unset, .unset]) rfl ?_
      show Steps p.tables e below (Tc.setTop (mkF m 262 #[.val (.int p0), .val (.int p1), .val (.int nn), .val (.int v0), .val (.int v1), .val (.int v2), .val (.int v3), .val (.int v4), .val (.ref b796), .val (.ref rr), .val (.int (own_f (0 : Int32) nn v0)), .val (.int (own_f (1 : Int32) nn v1)), .val (.int (own_f (2 : Int32) nn v2)), .val (.int (own_f (3 : Int32) nn v3)), .val (.int (own_f (4 : Int32) nn v4)), .val (.int (own_t (0 : Int32) nn v0)), .unset, .unset, .unset, .unset, .unset, .unset, .unset, .unset, .unset] [])) _
      exact kq)
    obtain ⟨t1, hG867, G867⟩ : ∃ (t1 : Int32), (t1 = (own_t (1 : Int32) nn v1)) ∧ Go p e below A0 (Tc.setTop (mkF m 277 #[.val (.int p0), .val (.int p1), .val (.int nn), .val (.int v0), .val (.int v1), .val (.int v2), .val (.int v3), .val (.int v4), .val (.ref b796), .val (.ref rr), .val (.int (own_f (0 : Int32) nn v0)), .val (.int (own_f (1 : Int32) nn v1)), .val (.int (own_f (2 : Int32) nn v2)), .val (.int (own_f (3 : Int32) nn v3)), .val (.int (own_f (4 : Int32) nn v4)), .val (.int (own_t (0 : Int32) nn v0)), .unset, .unset, .unset, .unset, .unset, .unset, .unset, .unset, .unset] [(.int t1)])) := by
      have G868 : Go p e below A0 (Tc.setTop (mkF m 264 #[.val (.int p0), .val (.int p1), .val (.int nn), .val (.int v0), .val (.int v1), .val (.int v2), .val (.int v3), .val (.int v4), .val (.ref b796), .val (.ref rr), .val (.int (own_f (0 : Int32) nn v0)), .val (.int (own_f (1 : Int32) nn v1)), .val (.int (own_f (2 : Int32) nn v2)), .val (.int (own_f (3 : Int32) nn v3)), .val (.int (own_f (4 : Int32) nn v4)), .val (.int (own_t (0 : Int32) nn v0)), .unset, .unset, .unset, .unset, .unset, .unset, .unset, .unset, .unset] [(.int (1 : Int32)), (.int nn)])) := fun tq kq => G866 tq (by
        refine XS.iloadN Xc.here hx rfl (hb hby at_262) rfl ?_
        show Steps p.tables e below (Tc.setTop (mkF m 263 #[.val (.int p0), .val (.int p1), .val (.int nn), .val (.int v0), .val (.int v1), .val (.int v2), .val (.int v3), .val (.int v4), .val (.ref b796), .val (.ref rr), .val (.int (own_f (0 : Int32) nn v0)), .val (.int (own_f (1 : Int32) nn v1)), .val (.int (own_f (2 : Int32) nn v2)), .val (.int (own_f (3 : Int32) nn v3)), .val (.int (own_f (4 : Int32) nn v4)), .val (.int (own_t (0 : Int32) nn v0)), .unset, .unset, .unset, .unset, .unset, .unset, .unset, .unset, .unset] [(.int nn)])) _
        refine XS.iconst Xc.here hx rfl (hb hby at_263) ?_
        show Steps p.tables e below (Tc.setTop (mkF m 264 #[.val (.int p0), .val (.int p1), .val (.int nn), .val (.int v0), .val (.int v1), .val (.int v2), .val (.int v3), .val (.int v4), .val (.ref b796), .val (.ref rr), .val (.int (own_f (0 : Int32) nn v0)), .val (.int (own_f (1 : Int32) nn v1)), .val (.int (own_f (2 : Int32) nn v2)), .val (.int (own_f (3 : Int32) nn v3)), .val (.int (own_f (4 : Int32) nn v4)), .val (.int (own_t (0 : Int32) nn v0)), .unset, .unset, .unset, .unset, .unset, .unset, .unset, .unset, .unset] [(.int (1 : Int32)), (.int nn)])) _
        exact kq)
      by_cases hc869 : (1 : Int32) < nn
      · have G870 : Go p e below A0 (Tc.setTop (mkF m 269 #[.val (.int p0), .val (.int p1), .val (.int nn), .val (.int v0), .val (.int v1), .val (.int v2), .val (.int v3), .val (.int v4), .val (.ref b796), .val (.ref rr), .val (.int (own_f (0 : Int32) nn v0)), .val (.int (own_f (1 : Int32) nn v1)), .val (.int (own_f (2 : Int32) nn v2)), .val (.int (own_f (3 : Int32) nn v3)), .val (.int (own_f (4 : Int32) nn v4)), .val (.int (own_t (0 : Int32) nn v0)), .unset, .unset, .unset, .unset, .unset, .unset, .unset, .unset, .unset] [(.int v1)])) := fun tq kq => G868 tq (by
          refine XS.icmpNo Xc.here hx rfl (hb hby at_264) rfl (tlt hc869).2.2.2 ?_
          show Steps p.tables e below (Tc.setTop (mkF m 267 #[.val (.int p0), .val (.int p1), .val (.int nn), .val (.int v0), .val (.int v1), .val (.int v2), .val (.int v3), .val (.int v4), .val (.ref b796), .val (.ref rr), .val (.int (own_f (0 : Int32) nn v0)), .val (.int (own_f (1 : Int32) nn v1)), .val (.int (own_f (2 : Int32) nn v2)), .val (.int (own_f (3 : Int32) nn v3)), .val (.int (own_f (4 : Int32) nn v4)), .val (.int (own_t (0 : Int32) nn v0)), .unset, .unset, .unset, .unset, .unset, .unset, .unset, .unset, .unset] [])) _
          refine XS.iload Xc.here hx rfl (hb hby at_267) rfl ?_
          show Steps p.tables e below (Tc.setTop (mkF m 269 #[.val (.int p0), .val (.int p1), .val (.int nn), .val (.int v0), .val (.int v1), .val (.int v2), .val (.int v3), .val (.int v4), .val (.ref b796), .val (.ref rr), .val (.int (own_f (0 : Int32) nn v0)), .val (.int (own_f (1 : Int32) nn v1)), .val (.int (own_f (2 : Int32) nn v2)), .val (.int (own_f (3 : Int32) nn v3)), .val (.int (own_f (4 : Int32) nn v4)), .val (.int (own_t (0 : Int32) nn v0)), .unset, .unset, .unset, .unset, .unset, .unset, .unset, .unset, .unset] [(.int v1)])) _
          exact kq)
        by_cases hc871 : v1 = (0 : Int32)
        · have G872 : Go p e below A0 (Tc.setTop (mkF m 277 #[.val (.int p0), .val (.int p1), .val (.int nn), .val (.int v0), .val (.int v1), .val (.int v2), .val (.int v3), .val (.int v4), .val (.ref b796), .val (.ref rr), .val (.int (own_f (0 : Int32) nn v0)), .val (.int (own_f (1 : Int32) nn v1)), .val (.int (own_f (2 : Int32) nn v2)), .val (.int (own_f (3 : Int32) nn v3)), .val (.int (own_f (4 : Int32) nn v4)), .val (.int (own_t (0 : Int32) nn v0)), .unset, .unset, .unset, .unset, .unset, .unset, .unset, .unset, .unset] [(.int (0 : Int32))])) := fun tq kq => G870 tq (by
            refine XS.ifYes Xc.here hx rfl (pc0 := 269) (pc' := 276) rfl (hb hby at_269) rfl ((if0 _ _).trans (teq hc871).1) (by decide) (by decide) ?_
            show Steps p.tables e below (Tc.setTop (mkF m 276 #[.val (.int p0), .val (.int p1), .val (.int nn), .val (.int v0), .val (.int v1), .val (.int v2), .val (.int v3), .val (.int v4), .val (.ref b796), .val (.ref rr), .val (.int (own_f (0 : Int32) nn v0)), .val (.int (own_f (1 : Int32) nn v1)), .val (.int (own_f (2 : Int32) nn v2)), .val (.int (own_f (3 : Int32) nn v3)), .val (.int (own_f (4 : Int32) nn v4)), .val (.int (own_t (0 : Int32) nn v0)), .unset, .unset, .unset, .unset, .unset, .unset, .unset, .unset, .unset] [])) _
            refine XS.iconst Xc.here hx rfl (hb hby at_276) ?_
            show Steps p.tables e below (Tc.setTop (mkF m 277 #[.val (.int p0), .val (.int p1), .val (.int nn), .val (.int v0), .val (.int v1), .val (.int v2), .val (.int v3), .val (.int v4), .val (.ref b796), .val (.ref rr), .val (.int (own_f (0 : Int32) nn v0)), .val (.int (own_f (1 : Int32) nn v1)), .val (.int (own_f (2 : Int32) nn v2)), .val (.int (own_f (3 : Int32) nn v3)), .val (.int (own_f (4 : Int32) nn v4)), .val (.int (own_t (0 : Int32) nn v0)), .unset, .unset, .unset, .unset, .unset, .unset, .unset, .unset, .unset] [(.int (0 : Int32))])) _
            exact kq)
          exact ⟨(0 : Int32), (by simp only [own_b, own_t, hc869, hc871, not_true_eq_false, not_false_eq_true, if_true, if_false, or_true, true_or, or_false, false_or, and_true, true_and, and_false, false_and, and_self, or_self]), G872⟩
        · have G873 : Go p e below A0 (Tc.setTop (mkF m 277 #[.val (.int p0), .val (.int p1), .val (.int nn), .val (.int v0), .val (.int v1), .val (.int v2), .val (.int v3), .val (.int v4), .val (.ref b796), .val (.ref rr), .val (.int (own_f (0 : Int32) nn v0)), .val (.int (own_f (1 : Int32) nn v1)), .val (.int (own_f (2 : Int32) nn v2)), .val (.int (own_f (3 : Int32) nn v3)), .val (.int (own_f (4 : Int32) nn v4)), .val (.int (own_t (0 : Int32) nn v0)), .unset, .unset, .unset, .unset, .unset, .unset, .unset, .unset, .unset] [(.int (1 : Int32))])) := fun tq kq => G870 tq (by
            refine XS.ifNo Xc.here hx rfl (hb hby at_269) rfl ((if0 _ _).trans (feq hc871).1) ?_
            show Steps p.tables e below (Tc.setTop (mkF m 272 #[.val (.int p0), .val (.int p1), .val (.int nn), .val (.int v0), .val (.int v1), .val (.int v2), .val (.int v3), .val (.int v4), .val (.ref b796), .val (.ref rr), .val (.int (own_f (0 : Int32) nn v0)), .val (.int (own_f (1 : Int32) nn v1)), .val (.int (own_f (2 : Int32) nn v2)), .val (.int (own_f (3 : Int32) nn v3)), .val (.int (own_f (4 : Int32) nn v4)), .val (.int (own_t (0 : Int32) nn v0)), .unset, .unset, .unset, .unset, .unset, .unset, .unset, .unset, .unset] [])) _
            refine XS.iconst Xc.here hx rfl (hb hby at_272) ?_
            show Steps p.tables e below (Tc.setTop (mkF m 273 #[.val (.int p0), .val (.int p1), .val (.int nn), .val (.int v0), .val (.int v1), .val (.int v2), .val (.int v3), .val (.int v4), .val (.ref b796), .val (.ref rr), .val (.int (own_f (0 : Int32) nn v0)), .val (.int (own_f (1 : Int32) nn v1)), .val (.int (own_f (2 : Int32) nn v2)), .val (.int (own_f (3 : Int32) nn v3)), .val (.int (own_f (4 : Int32) nn v4)), .val (.int (own_t (0 : Int32) nn v0)), .unset, .unset, .unset, .unset, .unset, .unset, .unset, .unset, .unset] [(.int (1 : Int32))])) _
            refine XS.goto Xc.here hx rfl (pc0 := 273) (pc' := 277) rfl (hb hby at_273) (by decide) (by decide) ?_
            show Steps p.tables e below (Tc.setTop (mkF m 277 #[.val (.int p0), .val (.int p1), .val (.int nn), .val (.int v0), .val (.int v1), .val (.int v2), .val (.int v3), .val (.int v4), .val (.ref b796), .val (.ref rr), .val (.int (own_f (0 : Int32) nn v0)), .val (.int (own_f (1 : Int32) nn v1)), .val (.int (own_f (2 : Int32) nn v2)), .val (.int (own_f (3 : Int32) nn v3)), .val (.int (own_f (4 : Int32) nn v4)), .val (.int (own_t (0 : Int32) nn v0)), .unset, .unset, .unset, .unset, .unset, .unset, .unset, .unset, .unset] [(.int (1 : Int32))])) _
            exact kq)
          exact ⟨(1 : Int32), (by simp only [own_b, own_t, hc869, hc871, not_true_eq_false, not_false_eq_true, if_true, if_false, or_true, true_or, or_false, false_or, and_true, true_and, and_false, false_and, and_self, or_self]), G873⟩
      · have G874 : Go p e below A0 (Tc.setTop (mkF m 277 #[.val (.int p0), .val (.int p1), .val (.int nn), .val (.int v0), .val (.int v1), .val (.int v2), .val (.int v3), .val (.int v4), .val (.ref b796), .val (.ref rr), .val (.int (own_f (0 : Int32) nn v0)), .val (.int (own_f (1 : Int32) nn v1)), .val (.int (own_f (2 : Int32) nn v2)), .val (.int (own_f (3 : Int32) nn v3)), .val (.int (own_f (4 : Int32) nn v4)), .val (.int (own_t (0 : Int32) nn v0)), .unset, .unset, .unset, .unset, .unset, .unset, .unset, .unset, .unset] [(.int (0 : Int32))])) := fun tq kq => G868 tq (by
          refine XS.icmpYes Xc.here hx rfl (pc0 := 264) (pc' := 276) rfl (hb hby at_264) rfl (flt hc869).2.2.2 (by decide) (by decide) ?_
          show Steps p.tables e below (Tc.setTop (mkF m 276 #[.val (.int p0), .val (.int p1), .val (.int nn), .val (.int v0), .val (.int v1), .val (.int v2), .val (.int v3), .val (.int v4), .val (.ref b796), .val (.ref rr), .val (.int (own_f (0 : Int32) nn v0)), .val (.int (own_f (1 : Int32) nn v1)), .val (.int (own_f (2 : Int32) nn v2)), .val (.int (own_f (3 : Int32) nn v3)), .val (.int (own_f (4 : Int32) nn v4)), .val (.int (own_t (0 : Int32) nn v0)), .unset, .unset, .unset, .unset, .unset, .unset, .unset, .unset, .unset] [])) _
          refine XS.iconst Xc.here hx rfl (hb hby at_276) ?_
          show Steps p.tables e below (Tc.setTop (mkF m 277 #[.val (.int p0), .val (.int p1), .val (.int nn), .val (.int v0), .val (.int v1), .val (.int v2), .val (.int v3), .val (.int v4), .val (.ref b796), .val (.ref rr), .val (.int (own_f (0 : Int32) nn v0)), .val (.int (own_f (1 : Int32) nn v1)), .val (.int (own_f (2 : Int32) nn v2)), .val (.int (own_f (3 : Int32) nn v3)), .val (.int (own_f (4 : Int32) nn v4)), .val (.int (own_t (0 : Int32) nn v0)), .unset, .unset, .unset, .unset, .unset, .unset, .unset, .unset, .unset] [(.int (0 : Int32))])) _
          exact kq)
        exact ⟨(0 : Int32), (by simp only [own_b, own_t, hc869, not_true_eq_false, not_false_eq_true, if_true, if_false, or_true, true_or, or_false, false_or, and_true, true_and, and_false, false_and, and_self, or_self]), G874⟩
    subst hG867
    have G875 : Go p e below A0 (Tc.setTop (mkF m 279 #[.val (.int p0), .val (.int p1), .val (.int nn), .val (.int v0), .val (.int v1), .val (.int v2), .val (.int v3), .val (.int v4), .val (.ref b796), .val (.ref rr), .val (.int (own_f (0 : Int32) nn v0)), .val (.int (own_f (1 : Int32) nn v1)), .val (.int (own_f (2 : Int32) nn v2)), .val (.int (own_f (3 : Int32) nn v3)), .val (.int (own_f (4 : Int32) nn v4)), .val (.int (own_t (0 : Int32) nn v0)), .val (.int (own_t (1 : Int32) nn v1)), .unset, .unset, .unset, .unset, .unset, .unset, .unset, .unset] [])) := fun tq kq => G867 tq (by
      refine XS.istore Xc.here hx rfl (hb hby at_277) rfl (l' := #[.val (.int p0), .val (.int p1), .val (.int nn), .val (.int v0), .val (.int v1), .val (.int v2), .val (.int v3), .val (.int v4), .val (.ref b796), .val (.ref rr), .val (.int (own_f (0 : Int32) nn v0)), .val (.int (own_f (1 : Int32) nn v1)), .val (.int (own_f (2 : Int32) nn v2)), .val (.int (own_f (3 : Int32) nn v3)), .val (.int (own_f (4 : Int32) nn v4)), .val (.int (own_t (0 : Int32) nn v0)), .val (.int (own_t (1 : Int32) nn v1)), .unset, .unset, .unset, .unset, .unset, .unset, .unset, .unset]) rfl ?_
      show Steps p.tables e below (Tc.setTop (mkF m 279 #[.val (.int p0), .val (.int p1), .val (.int nn), .val (.int v0), .val (.int v1), .val (.int v2), .val (.int v3), .val (.int v4), .val (.ref b796), .val (.ref rr), .val (.int (own_f (0 : Int32) nn v0)), .val (.int (own_f (1 : Int32) nn v1)), .val (.int (own_f (2 : Int32) nn v2)), .val (.int (own_f (3 : Int32) nn v3)), .val (.int (own_f (4 : Int32) nn v4)), .val (.int (own_t (0 : Int32) nn v0)), .val (.int (own_t (1 : Int32) nn v1)), .unset, .unset, .unset, .unset, .unset, .unset, .unset, .unset] [])) _
      exact kq)
    obtain ⟨t2, hG876, G876⟩ : ∃ (t2 : Int32), (t2 = (own_t (2 : Int32) nn v2)) ∧ Go p e below A0 (Tc.setTop (mkF m 294 #[.val (.int p0), .val (.int p1), .val (.int nn), .val (.int v0), .val (.int v1), .val (.int v2), .val (.int v3), .val (.int v4), .val (.ref b796), .val (.ref rr), .val (.int (own_f (0 : Int32) nn v0)), .val (.int (own_f (1 : Int32) nn v1)), .val (.int (own_f (2 : Int32) nn v2)), .val (.int (own_f (3 : Int32) nn v3)), .val (.int (own_f (4 : Int32) nn v4)), .val (.int (own_t (0 : Int32) nn v0)), .val (.int (own_t (1 : Int32) nn v1)), .unset, .unset, .unset, .unset, .unset, .unset, .unset, .unset] [(.int t2)])) := by
      have G877 : Go p e below A0 (Tc.setTop (mkF m 281 #[.val (.int p0), .val (.int p1), .val (.int nn), .val (.int v0), .val (.int v1), .val (.int v2), .val (.int v3), .val (.int v4), .val (.ref b796), .val (.ref rr), .val (.int (own_f (0 : Int32) nn v0)), .val (.int (own_f (1 : Int32) nn v1)), .val (.int (own_f (2 : Int32) nn v2)), .val (.int (own_f (3 : Int32) nn v3)), .val (.int (own_f (4 : Int32) nn v4)), .val (.int (own_t (0 : Int32) nn v0)), .val (.int (own_t (1 : Int32) nn v1)), .unset, .unset, .unset, .unset, .unset, .unset, .unset, .unset] [(.int (2 : Int32)), (.int nn)])) := fun tq kq => G875 tq (by
        refine XS.iloadN Xc.here hx rfl (hb hby at_279) rfl ?_
        show Steps p.tables e below (Tc.setTop (mkF m 280 #[.val (.int p0), .val (.int p1), .val (.int nn), .val (.int v0), .val (.int v1), .val (.int v2), .val (.int v3), .val (.int v4), .val (.ref b796), .val (.ref rr), .val (.int (own_f (0 : Int32) nn v0)), .val (.int (own_f (1 : Int32) nn v1)), .val (.int (own_f (2 : Int32) nn v2)), .val (.int (own_f (3 : Int32) nn v3)), .val (.int (own_f (4 : Int32) nn v4)), .val (.int (own_t (0 : Int32) nn v0)), .val (.int (own_t (1 : Int32) nn v1)), .unset, .unset, .unset, .unset, .unset, .unset, .unset, .unset] [(.int nn)])) _
        refine XS.iconst Xc.here hx rfl (hb hby at_280) ?_
        show Steps p.tables e below (Tc.setTop (mkF m 281 #[.val (.int p0), .val (.int p1), .val (.int nn), .val (.int v0), .val (.int v1), .val (.int v2), .val (.int v3), .val (.int v4), .val (.ref b796), .val (.ref rr), .val (.int (own_f (0 : Int32) nn v0)), .val (.int (own_f (1 : Int32) nn v1)), .val (.int (own_f (2 : Int32) nn v2)), .val (.int (own_f (3 : Int32) nn v3)), .val (.int (own_f (4 : Int32) nn v4)), .val (.int (own_t (0 : Int32) nn v0)), .val (.int (own_t (1 : Int32) nn v1)), .unset, .unset, .unset, .unset, .unset, .unset, .unset, .unset] [(.int (2 : Int32)), (.int nn)])) _
        exact kq)
      by_cases hc878 : (2 : Int32) < nn
      · have G879 : Go p e below A0 (Tc.setTop (mkF m 286 #[.val (.int p0), .val (.int p1), .val (.int nn), .val (.int v0), .val (.int v1), .val (.int v2), .val (.int v3), .val (.int v4), .val (.ref b796), .val (.ref rr), .val (.int (own_f (0 : Int32) nn v0)), .val (.int (own_f (1 : Int32) nn v1)), .val (.int (own_f (2 : Int32) nn v2)), .val (.int (own_f (3 : Int32) nn v3)), .val (.int (own_f (4 : Int32) nn v4)), .val (.int (own_t (0 : Int32) nn v0)), .val (.int (own_t (1 : Int32) nn v1)), .unset, .unset, .unset, .unset, .unset, .unset, .unset, .unset] [(.int v2)])) := fun tq kq => G877 tq (by
          refine XS.icmpNo Xc.here hx rfl (hb hby at_281) rfl (tlt hc878).2.2.2 ?_
          show Steps p.tables e below (Tc.setTop (mkF m 284 #[.val (.int p0), .val (.int p1), .val (.int nn), .val (.int v0), .val (.int v1), .val (.int v2), .val (.int v3), .val (.int v4), .val (.ref b796), .val (.ref rr), .val (.int (own_f (0 : Int32) nn v0)), .val (.int (own_f (1 : Int32) nn v1)), .val (.int (own_f (2 : Int32) nn v2)), .val (.int (own_f (3 : Int32) nn v3)), .val (.int (own_f (4 : Int32) nn v4)), .val (.int (own_t (0 : Int32) nn v0)), .val (.int (own_t (1 : Int32) nn v1)), .unset, .unset, .unset, .unset, .unset, .unset, .unset, .unset] [])) _
          refine XS.iload Xc.here hx rfl (hb hby at_284) rfl ?_
          show Steps p.tables e below (Tc.setTop (mkF m 286 #[.val (.int p0), .val (.int p1), .val (.int nn), .val (.int v0), .val (.int v1), .val (.int v2), .val (.int v3), .val (.int v4), .val (.ref b796), .val (.ref rr), .val (.int (own_f (0 : Int32) nn v0)), .val (.int (own_f (1 : Int32) nn v1)), .val (.int (own_f (2 : Int32) nn v2)), .val (.int (own_f (3 : Int32) nn v3)), .val (.int (own_f (4 : Int32) nn v4)), .val (.int (own_t (0 : Int32) nn v0)), .val (.int (own_t (1 : Int32) nn v1)), .unset, .unset, .unset, .unset, .unset, .unset, .unset, .unset] [(.int v2)])) _
          exact kq)
        by_cases hc880 : v2 = (0 : Int32)
        · have G881 : Go p e below A0 (Tc.setTop (mkF m 294 #[.val (.int p0), .val (.int p1), .val (.int nn), .val (.int v0), .val (.int v1), .val (.int v2), .val (.int v3), .val (.int v4), .val (.ref b796), .val (.ref rr), .val (.int (own_f (0 : Int32) nn v0)), .val (.int (own_f (1 : Int32) nn v1)), .val (.int (own_f (2 : Int32) nn v2)), .val (.int (own_f (3 : Int32) nn v3)), .val (.int (own_f (4 : Int32) nn v4)), .val (.int (own_t (0 : Int32) nn v0)), .val (.int (own_t (1 : Int32) nn v1)), .unset, .unset, .unset, .unset, .unset, .unset, .unset, .unset] [(.int (0 : Int32))])) := fun tq kq => G879 tq (by
            refine XS.ifYes Xc.here hx rfl (pc0 := 286) (pc' := 293) rfl (hb hby at_286) rfl ((if0 _ _).trans (teq hc880).1) (by decide) (by decide) ?_
            show Steps p.tables e below (Tc.setTop (mkF m 293 #[.val (.int p0), .val (.int p1), .val (.int nn), .val (.int v0), .val (.int v1), .val (.int v2), .val (.int v3), .val (.int v4), .val (.ref b796), .val (.ref rr), .val (.int (own_f (0 : Int32) nn v0)), .val (.int (own_f (1 : Int32) nn v1)), .val (.int (own_f (2 : Int32) nn v2)), .val (.int (own_f (3 : Int32) nn v3)), .val (.int (own_f (4 : Int32) nn v4)), .val (.int (own_t (0 : Int32) nn v0)), .val (.int (own_t (1 : Int32) nn v1)), .unset, .unset, .unset, .unset, .unset, .unset, .unset, .unset] [])) _
            refine XS.iconst Xc.here hx rfl (hb hby at_293) ?_
            show Steps p.tables e below (Tc.setTop (mkF m 294 #[.val (.int p0), .val (.int p1), .val (.int nn), .val (.int v0), .val (.int v1), .val (.int v2), .val (.int v3), .val (.int v4), .val (.ref b796), .val (.ref rr), .val (.int (own_f (0 : Int32) nn v0)), .val (.int (own_f (1 : Int32) nn v1)), .val (.int (own_f (2 : Int32) nn v2)), .val (.int (own_f (3 : Int32) nn v3)), .val (.int (own_f (4 : Int32) nn v4)), .val (.int (own_t (0 : Int32) nn v0)), .val (.int (own_t (1 : Int32) nn v1)), .unset, .unset, .unset, .unset, .unset, .unset, .unset, .unset] [(.int (0 : Int32))])) _
            exact kq)
          exact ⟨(0 : Int32), (by simp only [own_b, own_t, hc878, hc880, not_true_eq_false, not_false_eq_true, if_true, if_false, or_true, true_or, or_false, false_or, and_true, true_and, and_false, false_and, and_self, or_self]), G881⟩
        · have G882 : Go p e below A0 (Tc.setTop (mkF m 294 #[.val (.int p0), .val (.int p1), .val (.int nn), .val (.int v0), .val (.int v1), .val (.int v2), .val (.int v3), .val (.int v4), .val (.ref b796), .val (.ref rr), .val (.int (own_f (0 : Int32) nn v0)), .val (.int (own_f (1 : Int32) nn v1)), .val (.int (own_f (2 : Int32) nn v2)), .val (.int (own_f (3 : Int32) nn v3)), .val (.int (own_f (4 : Int32) nn v4)), .val (.int (own_t (0 : Int32) nn v0)), .val (.int (own_t (1 : Int32) nn v1)), .unset, .unset, .unset, .unset, .unset, .unset, .unset, .unset] [(.int (1 : Int32))])) := fun tq kq => G879 tq (by
            refine XS.ifNo Xc.here hx rfl (hb hby at_286) rfl ((if0 _ _).trans (feq hc880).1) ?_
            show Steps p.tables e below (Tc.setTop (mkF m 289 #[.val (.int p0), .val (.int p1), .val (.int nn), .val (.int v0), .val (.int v1), .val (.int v2), .val (.int v3), .val (.int v4), .val (.ref b796), .val (.ref rr), .val (.int (own_f (0 : Int32) nn v0)), .val (.int (own_f (1 : Int32) nn v1)), .val (.int (own_f (2 : Int32) nn v2)), .val (.int (own_f (3 : Int32) nn v3)), .val (.int (own_f (4 : Int32) nn v4)), .val (.int (own_t (0 : Int32) nn v0)), .val (.int (own_t (1 : Int32) nn v1)), .unset, .unset, .unset, .unset, .unset, .unset, .unset, .unset] [])) _
            refine XS.iconst Xc.here hx rfl (hb hby at_289) ?_
            show Steps p.tables e below (Tc.setTop (mkF m 290 #[.val (.int p0), .val (.int p1), .val (.int nn), .val (.int v0), .val (.int v1), .val (.int v2), .val (.int v3), .val (.int v4), .val (.ref b796), .val (.ref rr), .val (.int (own_f (0 : Int32) nn v0)), .val (.int (own_f (1 : Int32) nn v1)), .val (.int (own_f (2 : Int32) nn v2)), .val (.int (own_f (3 : Int32) nn v3)), .val (.int (own_f (4 : Int32) nn v4)), .val (.int (own_t (0 : Int32) nn v0)), .val (.int (own_t (1 : Int32) nn v1)), .unset, .unset, .unset, .unset, .unset, .unset, .unset, .unset] [(.int (1 : Int32))])) _
            refine XS.goto Xc.here hx rfl (pc0 := 290) (pc' := 294) rfl (hb hby at_290) (by decide) (by decide) ?_
            show Steps p.tables e below (Tc.setTop (mkF m 294 #[.val (.int p0), .val (.int p1), .val (.int nn), .val (.int v0), .val (.int v1), .val (.int v2), .val (.int v3), .val (.int v4), .val (.ref b796), .val (.ref rr), .val (.int (own_f (0 : Int32) nn v0)), .val (.int (own_f (1 : Int32) nn v1)), .val (.int (own_f (2 : Int32) nn v2)), .val (.int (own_f (3 : Int32) nn v3)), .val (.int (own_f (4 : Int32) nn v4)), .val (.int (own_t (0 : Int32) nn v0)), .val (.int (own_t (1 : Int32) nn v1)), .unset, .unset, .unset, .unset, .unset, .unset, .unset, .unset] [(.int (1 : Int32))])) _
            exact kq)
          exact ⟨(1 : Int32), (by simp only [own_b, own_t, hc878, hc880, not_true_eq_false, not_false_eq_true, if_true, if_false, or_true, true_or, or_false, false_or, and_true, true_and, and_false, false_and, and_self, or_self]), G882⟩
      · have G883 : Go p e below A0 (Tc.setTop (mkF m 294 #[.val (.int p0), .val (.int p1), .val (.int nn), .val (.int v0), .val (.int v1), .val (.int v2), .val (.int v3), .val (.int v4), .val (.ref b796), .val (.ref rr), .val (.int (own_f (0 : Int32) nn v0)), .val (.int (own_f (1 : Int32) nn v1)), .val (.int (own_f (2 : Int32) nn v2)), .val (.int (own_f (3 : Int32) nn v3)), .val (.int (own_f (4 : Int32) nn v4)), .val (.int (own_t (0 : Int32) nn v0)), .val (.int (own_t (1 : Int32) nn v1)), .unset, .unset, .unset, .unset, .unset, .unset, .unset, .unset] [(.int (0 : Int32))])) := fun tq kq => G877 tq (by
          refine XS.icmpYes Xc.here hx rfl (pc0 := 281) (pc' := 293) rfl (hb hby at_281) rfl (flt hc878).2.2.2 (by decide) (by decide) ?_
          show Steps p.tables e below (Tc.setTop (mkF m 293 #[.val (.int p0), .val (.int p1), .val (.int nn), .val (.int v0), .val (.int v1), .val (.int v2), .val (.int v3), .val (.int v4), .val (.ref b796), .val (.ref rr), .val (.int (own_f (0 : Int32) nn v0)), .val (.int (own_f (1 : Int32) nn v1)), .val (.int (own_f (2 : Int32) nn v2)), .val (.int (own_f (3 : Int32) nn v3)), .val (.int (own_f (4 : Int32) nn v4)), .val (.int (own_t (0 : Int32) nn v0)), .val (.int (own_t (1 : Int32) nn v1)), .unset, .unset, .unset, .unset, .unset, .unset, .unset, .unset] [])) _
          refine XS.iconst Xc.here hx rfl (hb hby at_293) ?_
          show Steps p.tables e below (Tc.setTop (mkF m 294 #[.val (.int p0), .val (.int p1), .val (.int nn), .val (.int v0), .val (.int v1), .val (.int v2), .val (.int v3), .val (.int v4), .val (.ref b796), .val (.ref rr), .val (.int (own_f (0 : Int32) nn v0)), .val (.int (own_f (1 : Int32) nn v1)), .val (.int (own_f (2 : Int32) nn v2)), .val (.int (own_f (3 : Int32) nn v3)), .val (.int (own_f (4 : Int32) nn v4)), .val (.int (own_t (0 : Int32) nn v0)), .val (.int (own_t (1 : Int32) nn v1)), .unset, .unset, .unset, .unset, .unset, .unset, .unset, .unset] [(.int (0 : Int32))])) _
          exact kq)
        exact ⟨(0 : Int32), (by simp only [own_b, own_t, hc878, not_true_eq_false, not_false_eq_true, if_true, if_false, or_true, true_or, or_false, false_or, and_true, true_and, and_false, false_and, and_self, or_self]), G883⟩
    subst hG876
    have G884 : Go p e below A0 (Tc.setTop (mkF m 296 #[.val (.int p0), .val (.int p1), .val (.int nn), .val (.int v0), .val (.int v1), .val (.int v2), .val (.int v3), .val (.int v4), .val (.ref b796), .val (.ref rr), .val (.int (own_f (0 : Int32) nn v0)), .val (.int (own_f (1 : Int32) nn v1)), .val (.int (own_f (2 : Int32) nn v2)), .val (.int (own_f (3 : Int32) nn v3)), .val (.int (own_f (4 : Int32) nn v4)), .val (.int (own_t (0 : Int32) nn v0)), .val (.int (own_t (1 : Int32) nn v1)), .val (.int (own_t (2 : Int32) nn v2)), .unset, .unset, .unset, .unset, .unset, .unset, .unset] [])) := fun tq kq => G876 tq (by
      refine XS.istore Xc.here hx rfl (hb hby at_294) rfl (l' := #[.val (.int p0), .val (.int p1), .val (.int nn), .val (.int v0), .val (.int v1), .val (.int v2), .val (.int v3), .val (.int v4), .val (.ref b796), .val (.ref rr), .val (.int (own_f (0 : Int32) nn v0)), .val (.int (own_f (1 : Int32) nn v1)), .val (.int (own_f (2 : Int32) nn v2)), .val (.int (own_f (3 : Int32) nn v3)), .val (.int (own_f (4 : Int32) nn v4)), .val (.int (own_t (0 : Int32) nn v0)), .val (.int (own_t (1 : Int32) nn v1)), .val (.int (own_t (2 : Int32) nn v2)), .unset, .unset, .unset, .unset, .unset, .unset, .unset]) rfl ?_
      show Steps p.tables e below (Tc.setTop (mkF m 296 #[.val (.int p0), .val (.int p1), .val (.int nn), .val (.int v0), .val (.int v1), .val (.int v2), .val (.int v3), .val (.int v4), .val (.ref b796), .val (.ref rr), .val (.int (own_f (0 : Int32) nn v0)), .val (.int (own_f (1 : Int32) nn v1)), .val (.int (own_f (2 : Int32) nn v2)), .val (.int (own_f (3 : Int32) nn v3)), .val (.int (own_f (4 : Int32) nn v4)), .val (.int (own_t (0 : Int32) nn v0)), .val (.int (own_t (1 : Int32) nn v1)), .val (.int (own_t (2 : Int32) nn v2)), .unset, .unset, .unset, .unset, .unset, .unset, .unset] [])) _
      exact kq)
    obtain ⟨t3, hG885, G885⟩ : ∃ (t3 : Int32), (t3 = (own_t (3 : Int32) nn v3)) ∧ Go p e below A0 (Tc.setTop (mkF m 311 #[.val (.int p0), .val (.int p1), .val (.int nn), .val (.int v0), .val (.int v1), .val (.int v2), .val (.int v3), .val (.int v4), .val (.ref b796), .val (.ref rr), .val (.int (own_f (0 : Int32) nn v0)), .val (.int (own_f (1 : Int32) nn v1)), .val (.int (own_f (2 : Int32) nn v2)), .val (.int (own_f (3 : Int32) nn v3)), .val (.int (own_f (4 : Int32) nn v4)), .val (.int (own_t (0 : Int32) nn v0)), .val (.int (own_t (1 : Int32) nn v1)), .val (.int (own_t (2 : Int32) nn v2)), .unset, .unset, .unset, .unset, .unset, .unset, .unset] [(.int t3)])) := by
      have G886 : Go p e below A0 (Tc.setTop (mkF m 298 #[.val (.int p0), .val (.int p1), .val (.int nn), .val (.int v0), .val (.int v1), .val (.int v2), .val (.int v3), .val (.int v4), .val (.ref b796), .val (.ref rr), .val (.int (own_f (0 : Int32) nn v0)), .val (.int (own_f (1 : Int32) nn v1)), .val (.int (own_f (2 : Int32) nn v2)), .val (.int (own_f (3 : Int32) nn v3)), .val (.int (own_f (4 : Int32) nn v4)), .val (.int (own_t (0 : Int32) nn v0)), .val (.int (own_t (1 : Int32) nn v1)), .val (.int (own_t (2 : Int32) nn v2)), .unset, .unset, .unset, .unset, .unset, .unset, .unset] [(.int (3 : Int32)), (.int nn)])) := fun tq kq => G884 tq (by
        refine XS.iloadN Xc.here hx rfl (hb hby at_296) rfl ?_
        show Steps p.tables e below (Tc.setTop (mkF m 297 #[.val (.int p0), .val (.int p1), .val (.int nn), .val (.int v0), .val (.int v1), .val (.int v2), .val (.int v3), .val (.int v4), .val (.ref b796), .val (.ref rr), .val (.int (own_f (0 : Int32) nn v0)), .val (.int (own_f (1 : Int32) nn v1)), .val (.int (own_f (2 : Int32) nn v2)), .val (.int (own_f (3 : Int32) nn v3)), .val (.int (own_f (4 : Int32) nn v4)), .val (.int (own_t (0 : Int32) nn v0)), .val (.int (own_t (1 : Int32) nn v1)), .val (.int (own_t (2 : Int32) nn v2)), .unset, .unset, .unset, .unset, .unset, .unset, .unset] [(.int nn)])) _
        refine XS.iconst Xc.here hx rfl (hb hby at_297) ?_
        show Steps p.tables e below (Tc.setTop (mkF m 298 #[.val (.int p0), .val (.int p1), .val (.int nn), .val (.int v0), .val (.int v1), .val (.int v2), .val (.int v3), .val (.int v4), .val (.ref b796), .val (.ref rr), .val (.int (own_f (0 : Int32) nn v0)), .val (.int (own_f (1 : Int32) nn v1)), .val (.int (own_f (2 : Int32) nn v2)), .val (.int (own_f (3 : Int32) nn v3)), .val (.int (own_f (4 : Int32) nn v4)), .val (.int (own_t (0 : Int32) nn v0)), .val (.int (own_t (1 : Int32) nn v1)), .val (.int (own_t (2 : Int32) nn v2)), .unset, .unset, .unset, .unset, .unset, .unset, .unset] [(.int (3 : Int32)), (.int nn)])) _
        exact kq)
      by_cases hc887 : (3 : Int32) < nn
      · have G888 : Go p e below A0 (Tc.setTop (mkF m 303 #[.val (.int p0), .val (.int p1), .val (.int nn), .val (.int v0), .val (.int v1), .val (.int v2), .val (.int v3), .val (.int v4), .val (.ref b796), .val (.ref rr), .val (.int (own_f (0 : Int32) nn v0)), .val (.int (own_f (1 : Int32) nn v1)), .val (.int (own_f (2 : Int32) nn v2)), .val (.int (own_f (3 : Int32) nn v3)), .val (.int (own_f (4 : Int32) nn v4)), .val (.int (own_t (0 : Int32) nn v0)), .val (.int (own_t (1 : Int32) nn v1)), .val (.int (own_t (2 : Int32) nn v2)), .unset, .unset, .unset, .unset, .unset, .unset, .unset] [(.int v3)])) := fun tq kq => G886 tq (by
          refine XS.icmpNo Xc.here hx rfl (hb hby at_298) rfl (tlt hc887).2.2.2 ?_
          show Steps p.tables e below (Tc.setTop (mkF m 301 #[.val (.int p0), .val (.int p1), .val (.int nn), .val (.int v0), .val (.int v1), .val (.int v2), .val (.int v3), .val (.int v4), .val (.ref b796), .val (.ref rr), .val (.int (own_f (0 : Int32) nn v0)), .val (.int (own_f (1 : Int32) nn v1)), .val (.int (own_f (2 : Int32) nn v2)), .val (.int (own_f (3 : Int32) nn v3)), .val (.int (own_f (4 : Int32) nn v4)), .val (.int (own_t (0 : Int32) nn v0)), .val (.int (own_t (1 : Int32) nn v1)), .val (.int (own_t (2 : Int32) nn v2)), .unset, .unset, .unset, .unset, .unset, .unset, .unset] [])) _
          refine XS.iload Xc.here hx rfl (hb hby at_301) rfl ?_
          show Steps p.tables e below (Tc.setTop (mkF m 303 #[.val (.int p0), .val (.int p1), .val (.int nn), .val (.int v0), .val (.int v1), .val (.int v2), .val (.int v3), .val (.int v4), .val (.ref b796), .val (.ref rr), .val (.int (own_f (0 : Int32) nn v0)), .val (.int (own_f (1 : Int32) nn v1)), .val (.int (own_f (2 : Int32) nn v2)), .val (.int (own_f (3 : Int32) nn v3)), .val (.int (own_f (4 : Int32) nn v4)), .val (.int (own_t (0 : Int32) nn v0)), .val (.int (own_t (1 : Int32) nn v1)), .val (.int (own_t (2 : Int32) nn v2)), .unset, .unset, .unset, .unset, .unset, .unset, .unset] [(.int v3)])) _
          exact kq)
        by_cases hc889 : v3 = (0 : Int32)
        · have G890 : Go p e below A0 (Tc.setTop (mkF m 311 #[.val (.int p0), .val (.int p1), .val (.int nn), .val (.int v0), .val (.int v1), .val (.int v2), .val (.int v3), .val (.int v4), .val (.ref b796), .val (.ref rr), .val (.int (own_f (0 : Int32) nn v0)), .val (.int (own_f (1 : Int32) nn v1)), .val (.int (own_f (2 : Int32) nn v2)), .val (.int (own_f (3 : Int32) nn v3)), .val (.int (own_f (4 : Int32) nn v4)), .val (.int (own_t (0 : Int32) nn v0)), .val (.int (own_t (1 : Int32) nn v1)), .val (.int (own_t (2 : Int32) nn v2)), .unset, .unset, .unset, .unset, .unset, .unset, .unset] [(.int (0 : Int32))])) := fun tq kq => G888 tq (by
            refine XS.ifYes Xc.here hx rfl (pc0 := 303) (pc' := 310) rfl (hb hby at_303) rfl ((if0 _ _).trans (teq hc889).1) (by decide) (by decide) ?_
            show Steps p.tables e below (Tc.setTop (mkF m 310 #[.val (.int p0), .val (.int p1), .val (.int nn), .val (.int v0), .val (.int v1), .val (.int v2), .val (.int v3), .val (.int v4), .val (.ref b796), .val (.ref rr), .val (.int (own_f (0 : Int32) nn v0)), .val (.int (own_f (1 : Int32) nn v1)), .val (.int (own_f (2 : Int32) nn v2)), .val (.int (own_f (3 : Int32) nn v3)), .val (.int (own_f (4 : Int32) nn v4)), .val (.int (own_t (0 : Int32) nn v0)), .val (.int (own_t (1 : Int32) nn v1)), .val (.int (own_t (2 : Int32) nn v2)), .unset, .unset, .unset, .unset, .unset, .unset, .unset] [])) _
            refine XS.iconst Xc.here hx rfl (hb hby at_310) ?_
            show Steps p.tables e below (Tc.setTop (mkF m 311 #[.val (.int p0), .val (.int p1), .val (.int nn), .val (.int v0), .val (.int v1), .val (.int v2), .val (.int v3), .val (.int v4), .val (.ref b796), .val (.ref rr), .val (.int (own_f (0 : Int32) nn v0)), .val (.int (own_f (1 : Int32) nn v1)), .val (.int (own_f (2 : Int32) nn v2)), .val (.int (own_f (3 : Int32) nn v3)), .val (.int (own_f (4 : Int32) nn v4)), .val (.int (own_t (0 : Int32) nn v0)), .val (.int (own_t (1 : Int32) nn v1)), .val (.int (own_t (2 : Int32) nn v2)), .unset, .unset, .unset, .unset, .unset, .unset, .unset] [(.int (0 : Int32))])) _
            exact kq)
          exact ⟨(0 : Int32), (by simp only [own_b, own_t, hc887, hc889, not_true_eq_false, not_false_eq_true, if_true, if_false, or_true, true_or, or_false, false_or, and_true, true_and, and_false, false_and, and_self, or_self]), G890⟩
        · have G891 : Go p e below A0 (Tc.setTop (mkF m 311 #[.val (.int p0), .val (.int p1), .val (.int nn), .val (.int v0), .val (.int v1), .val (.int v2), .val (.int v3), .val (.int v4), .val (.ref b796), .val (.ref rr), .val (.int (own_f (0 : Int32) nn v0)), .val (.int (own_f (1 : Int32) nn v1)), .val (.int (own_f (2 : Int32) nn v2)), .val (.int (own_f (3 : Int32) nn v3)), .val (.int (own_f (4 : Int32) nn v4)), .val (.int (own_t (0 : Int32) nn v0)), .val (.int (own_t (1 : Int32) nn v1)), .val (.int (own_t (2 : Int32) nn v2)), .unset, .unset, .unset, .unset, .unset, .unset, .unset] [(.int (1 : Int32))])) := fun tq kq => G888 tq (by
            refine XS.ifNo Xc.here hx rfl (hb hby at_303) rfl ((if0 _ _).trans (feq hc889).1) ?_
            show Steps p.tables e below (Tc.setTop (mkF m 306 #[.val (.int p0), .val (.int p1), .val (.int nn), .val (.int v0), .val (.int v1), .val (.int v2), .val (.int v3), .val (.int v4), .val (.ref b796), .val (.ref rr), .val (.int (own_f (0 : Int32) nn v0)), .val (.int (own_f (1 : Int32) nn v1)), .val (.int (own_f (2 : Int32) nn v2)), .val (.int (own_f (3 : Int32) nn v3)), .val (.int (own_f (4 : Int32) nn v4)), .val (.int (own_t (0 : Int32) nn v0)), .val (.int (own_t (1 : Int32) nn v1)), .val (.int (own_t (2 : Int32) nn v2)), .unset, .unset, .unset, .unset, .unset, .unset, .unset] [])) _
            refine XS.iconst Xc.here hx rfl (hb hby at_306) ?_
            show Steps p.tables e below (Tc.setTop (mkF m 307 #[.val (.int p0), .val (.int p1), .val (.int nn), .val (.int v0), .val (.int v1), .val (.int v2), .val (.int v3), .val (.int v4), .val (.ref b796), .val (.ref rr), .val (.int (own_f (0 : Int32) nn v0)), .val (.int (own_f (1 : Int32) nn v1)), .val (.int (own_f (2 : Int32) nn v2)), .val (.int (own_f (3 : Int32) nn v3)), .val (.int (own_f (4 : Int32) nn v4)), .val (.int (own_t (0 : Int32) nn v0)), .val (.int (own_t (1 : Int32) nn v1)), .val (.int (own_t (2 : Int32) nn v2)), .unset, .unset, .unset, .unset, .unset, .unset, .unset] [(.int (1 : Int32))])) _
            refine XS.goto Xc.here hx rfl (pc0 := 307) (pc' := 311) rfl (hb hby at_307) (by decide) (by decide) ?_
            show Steps p.tables e below (Tc.setTop (mkF m 311 #[.val (.int p0), .val (.int p1), .val (.int nn), .val (.int v0), .val (.int v1), .val (.int v2), .val (.int v3), .val (.int v4), .val (.ref b796), .val (.ref rr), .val (.int (own_f (0 : Int32) nn v0)), .val (.int (own_f (1 : Int32) nn v1)), .val (.int (own_f (2 : Int32) nn v2)), .val (.int (own_f (3 : Int32) nn v3)), .val (.int (own_f (4 : Int32) nn v4)), .val (.int (own_t (0 : Int32) nn v0)), .val (.int (own_t (1 : Int32) nn v1)), .val (.int (own_t (2 : Int32) nn v2)), .unset, .unset, .unset, .unset, .unset, .unset, .unset] [(.int (1 : Int32))])) _
            exact kq)
          exact ⟨(1 : Int32), (by simp only [own_b, own_t, hc887, hc889, not_true_eq_false, not_false_eq_true, if_true, if_false, or_true, true_or, or_false, false_or, and_true, true_and, and_false, false_and, and_self, or_self]), G891⟩
      · have G892 : Go p e below A0 (Tc.setTop (mkF m 311 #[.val (.int p0), .val (.int p1), .val (.int nn), .val (.int v0), .val (.int v1), .val (.int v2), .val (.int v3), .val (.int v4), .val (.ref b796), .val (.ref rr), .val (.int (own_f (0 : Int32) nn v0)), .val (.int (own_f (1 : Int32) nn v1)), .val (.int (own_f (2 : Int32) nn v2)), .val (.int (own_f (3 : Int32) nn v3)), .val (.int (own_f (4 : Int32) nn v4)), .val (.int (own_t (0 : Int32) nn v0)), .val (.int (own_t (1 : Int32) nn v1)), .val (.int (own_t (2 : Int32) nn v2)), .unset, .unset, .unset, .unset, .unset, .unset, .unset] [(.int (0 : Int32))])) := fun tq kq => G886 tq (by
          refine XS.icmpYes Xc.here hx rfl (pc0 := 298) (pc' := 310) rfl (hb hby at_298) rfl (flt hc887).2.2.2 (by decide) (by decide) ?_
          show Steps p.tables e below (Tc.setTop (mkF m 310 #[.val (.int p0), .val (.int p1), .val (.int nn), .val (.int v0), .val (.int v1), .val (.int v2), .val (.int v3), .val (.int v4), .val (.ref b796), .val (.ref rr), .val (.int (own_f (0 : Int32) nn v0)), .val (.int (own_f (1 : Int32) nn v1)), .val (.int (own_f (2 : Int32) nn v2)), .val (.int (own_f (3 : Int32) nn v3)), .val (.int (own_f (4 : Int32) nn v4)), .val (.int (own_t (0 : Int32) nn v0)), .val (.int (own_t (1 : Int32) nn v1)), .val (.int (own_t (2 : Int32) nn v2)), .unset, .unset, .unset, .unset, .unset, .unset, .unset] [])) _
          refine XS.iconst Xc.here hx rfl (hb hby at_310) ?_
          show Steps p.tables e below (Tc.setTop (mkF m 311 #[.val (.int p0), .val (.int p1), .val (.int nn), .val (.int v0), .val (.int v1), .val (.int v2), .val (.int v3), .val (.int v4), .val (.ref b796), .val (.ref rr), .val (.int (own_f (0 : Int32) nn v0)), .val (.int (own_f (1 : Int32) nn v1)), .val (.int (own_f (2 : Int32) nn v2)), .val (.int (own_f (3 : Int32) nn v3)), .val (.int (own_f (4 : Int32) nn v4)), .val (.int (own_t (0 : Int32) nn v0)), .val (.int (own_t (1 : Int32) nn v1)), .val (.int (own_t (2 : Int32) nn v2)), .unset, .unset, .unset, .unset, .unset, .unset, .unset] [(.int (0 : Int32))])) _
          exact kq)
        exact ⟨(0 : Int32), (by simp only [own_b, own_t, hc887, not_true_eq_false, not_false_eq_true, if_true, if_false, or_true, true_or, or_false, false_or, and_true, true_and, and_false, false_and, and_self, or_self]), G892⟩
    subst hG885
    have G893 : Go p e below A0 (Tc.setTop (mkF m 329 #[.val (.int p0), .val (.int p1), .val (.int nn), .val (.int v0), .val (.int v1), .val (.int v2), .val (.int v3), .val (.int v4), .val (.ref b796), .val (.ref rr), .val (.int (own_f (0 : Int32) nn v0)), .val (.int (own_f (1 : Int32) nn v1)), .val (.int (own_f (2 : Int32) nn v2)), .val (.int (own_f (3 : Int32) nn v3)), .val (.int (own_f (4 : Int32) nn v4)), .val (.int (own_t (0 : Int32) nn v0)), .val (.int (own_t (1 : Int32) nn v1)), .val (.int (own_t (2 : Int32) nn v2)), .val (.int (own_t (3 : Int32) nn v3)), .val (.int (own_fal nn v0 v1 v2 v3 v4)), .unset, .unset, .unset, .unset, .unset] [])) := fun tq kq => G885 tq (by
      refine XS.istore Xc.here hx rfl (hb hby at_311) rfl (l' := #[.val (.int p0), .val (.int p1), .val (.int nn), .val (.int v0), .val (.int v1), .val (.int v2), .val (.int v3), .val (.int v4), .val (.ref b796), .val (.ref rr), .val (.int (own_f (0 : Int32) nn v0)), .val (.int (own_f (1 : Int32) nn v1)), .val (.int (own_f (2 : Int32) nn v2)), .val (.int (own_f (3 : Int32) nn v3)), .val (.int (own_f (4 : Int32) nn v4)), .val (.int (own_t (0 : Int32) nn v0)), .val (.int (own_t (1 : Int32) nn v1)), .val (.int (own_t (2 : Int32) nn v2)), .val (.int (own_t (3 : Int32) nn v3)), .unset, .unset, .unset, .unset, .unset, .unset]) rfl ?_
      show Steps p.tables e below (Tc.setTop (mkF m 313 #[.val (.int p0), .val (.int p1), .val (.int nn), .val (.int v0), .val (.int v1), .val (.int v2), .val (.int v3), .val (.int v4), .val (.ref b796), .val (.ref rr), .val (.int (own_f (0 : Int32) nn v0)), .val (.int (own_f (1 : Int32) nn v1)), .val (.int (own_f (2 : Int32) nn v2)), .val (.int (own_f (3 : Int32) nn v3)), .val (.int (own_f (4 : Int32) nn v4)), .val (.int (own_t (0 : Int32) nn v0)), .val (.int (own_t (1 : Int32) nn v1)), .val (.int (own_t (2 : Int32) nn v2)), .val (.int (own_t (3 : Int32) nn v3)), .unset, .unset, .unset, .unset, .unset, .unset] [])) _
      refine XS.iload Xc.here hx rfl (hb hby at_313) rfl ?_
      show Steps p.tables e below (Tc.setTop (mkF m 315 #[.val (.int p0), .val (.int p1), .val (.int nn), .val (.int v0), .val (.int v1), .val (.int v2), .val (.int v3), .val (.int v4), .val (.ref b796), .val (.ref rr), .val (.int (own_f (0 : Int32) nn v0)), .val (.int (own_f (1 : Int32) nn v1)), .val (.int (own_f (2 : Int32) nn v2)), .val (.int (own_f (3 : Int32) nn v3)), .val (.int (own_f (4 : Int32) nn v4)), .val (.int (own_t (0 : Int32) nn v0)), .val (.int (own_t (1 : Int32) nn v1)), .val (.int (own_t (2 : Int32) nn v2)), .val (.int (own_t (3 : Int32) nn v3)), .unset, .unset, .unset, .unset, .unset, .unset] [(.int (own_f (0 : Int32) nn v0))])) _
      refine XS.iload Xc.here hx rfl (hb hby at_315) rfl ?_
      show Steps p.tables e below (Tc.setTop (mkF m 317 #[.val (.int p0), .val (.int p1), .val (.int nn), .val (.int v0), .val (.int v1), .val (.int v2), .val (.int v3), .val (.int v4), .val (.ref b796), .val (.ref rr), .val (.int (own_f (0 : Int32) nn v0)), .val (.int (own_f (1 : Int32) nn v1)), .val (.int (own_f (2 : Int32) nn v2)), .val (.int (own_f (3 : Int32) nn v3)), .val (.int (own_f (4 : Int32) nn v4)), .val (.int (own_t (0 : Int32) nn v0)), .val (.int (own_t (1 : Int32) nn v1)), .val (.int (own_t (2 : Int32) nn v2)), .val (.int (own_t (3 : Int32) nn v3)), .unset, .unset, .unset, .unset, .unset, .unset] [(.int (own_f (1 : Int32) nn v1)), (.int (own_f (0 : Int32) nn v0))])) _
      refine XS.iadd Xc.here hx rfl (hb hby at_317) rfl ?_
      show Steps p.tables e below (Tc.setTop (mkF m 318 #[.val (.int p0), .val (.int p1), .val (.int nn), .val (.int v0), .val (.int v1), .val (.int v2), .val (.int v3), .val (.int v4), .val (.ref b796), .val (.ref rr), .val (.int (own_f (0 : Int32) nn v0)), .val (.int (own_f (1 : Int32) nn v1)), .val (.int (own_f (2 : Int32) nn v2)), .val (.int (own_f (3 : Int32) nn v3)), .val (.int (own_f (4 : Int32) nn v4)), .val (.int (own_t (0 : Int32) nn v0)), .val (.int (own_t (1 : Int32) nn v1)), .val (.int (own_t (2 : Int32) nn v2)), .val (.int (own_t (3 : Int32) nn v3)), .unset, .unset, .unset, .unset, .unset, .unset] [(.int ((own_f (0 : Int32) nn v0) + (own_f (1 : Int32) nn v1)))])) _
      refine XS.iload Xc.here hx rfl (hb hby at_318) rfl ?_
      show Steps p.tables e below (Tc.setTop (mkF m 320 #[.val (.int p0), .val (.int p1), .val (.int nn), .val (.int v0), .val (.int v1), .val (.int v2), .val (.int v3), .val (.int v4), .val (.ref b796), .val (.ref rr), .val (.int (own_f (0 : Int32) nn v0)), .val (.int (own_f (1 : Int32) nn v1)), .val (.int (own_f (2 : Int32) nn v2)), .val (.int (own_f (3 : Int32) nn v3)), .val (.int (own_f (4 : Int32) nn v4)), .val (.int (own_t (0 : Int32) nn v0)), .val (.int (own_t (1 : Int32) nn v1)), .val (.int (own_t (2 : Int32) nn v2)), .val (.int (own_t (3 : Int32) nn v3)), .unset, .unset, .unset, .unset, .unset, .unset] [(.int (own_f (2 : Int32) nn v2)), (.int ((own_f (0 : Int32) nn v0) + (own_f (1 : Int32) nn v1)))])) _
      refine XS.iadd Xc.here hx rfl (hb hby at_320) rfl ?_
      show Steps p.tables e below (Tc.setTop (mkF m 321 #[.val (.int p0), .val (.int p1), .val (.int nn), .val (.int v0), .val (.int v1), .val (.int v2), .val (.int v3), .val (.int v4), .val (.ref b796), .val (.ref rr), .val (.int (own_f (0 : Int32) nn v0)), .val (.int (own_f (1 : Int32) nn v1)), .val (.int (own_f (2 : Int32) nn v2)), .val (.int (own_f (3 : Int32) nn v3)), .val (.int (own_f (4 : Int32) nn v4)), .val (.int (own_t (0 : Int32) nn v0)), .val (.int (own_t (1 : Int32) nn v1)), .val (.int (own_t (2 : Int32) nn v2)), .val (.int (own_t (3 : Int32) nn v3)), .unset, .unset, .unset, .unset, .unset, .unset] [(.int (((own_f (0 : Int32) nn v0) + (own_f (1 : Int32) nn v1)) + (own_f (2 : Int32) nn v2)))])) _
      refine XS.iload Xc.here hx rfl (hb hby at_321) rfl ?_
      show Steps p.tables e below (Tc.setTop (mkF m 323 #[.val (.int p0), .val (.int p1), .val (.int nn), .val (.int v0), .val (.int v1), .val (.int v2), .val (.int v3), .val (.int v4), .val (.ref b796), .val (.ref rr), .val (.int (own_f (0 : Int32) nn v0)), .val (.int (own_f (1 : Int32) nn v1)), .val (.int (own_f (2 : Int32) nn v2)), .val (.int (own_f (3 : Int32) nn v3)), .val (.int (own_f (4 : Int32) nn v4)), .val (.int (own_t (0 : Int32) nn v0)), .val (.int (own_t (1 : Int32) nn v1)), .val (.int (own_t (2 : Int32) nn v2)), .val (.int (own_t (3 : Int32) nn v3)), .unset, .unset, .unset, .unset, .unset, .unset] [(.int (own_f (3 : Int32) nn v3)), (.int (((own_f (0 : Int32) nn v0) + (own_f (1 : Int32) nn v1)) + (own_f (2 : Int32) nn v2)))])) _
      refine XS.iadd Xc.here hx rfl (hb hby at_323) rfl ?_
      show Steps p.tables e below (Tc.setTop (mkF m 324 #[.val (.int p0), .val (.int p1), .val (.int nn), .val (.int v0), .val (.int v1), .val (.int v2), .val (.int v3), .val (.int v4), .val (.ref b796), .val (.ref rr), .val (.int (own_f (0 : Int32) nn v0)), .val (.int (own_f (1 : Int32) nn v1)), .val (.int (own_f (2 : Int32) nn v2)), .val (.int (own_f (3 : Int32) nn v3)), .val (.int (own_f (4 : Int32) nn v4)), .val (.int (own_t (0 : Int32) nn v0)), .val (.int (own_t (1 : Int32) nn v1)), .val (.int (own_t (2 : Int32) nn v2)), .val (.int (own_t (3 : Int32) nn v3)), .unset, .unset, .unset, .unset, .unset, .unset] [(.int ((((own_f (0 : Int32) nn v0) + (own_f (1 : Int32) nn v1)) + (own_f (2 : Int32) nn v2)) + (own_f (3 : Int32) nn v3)))])) _
      refine XS.iload Xc.here hx rfl (hb hby at_324) rfl ?_
      show Steps p.tables e below (Tc.setTop (mkF m 326 #[.val (.int p0), .val (.int p1), .val (.int nn), .val (.int v0), .val (.int v1), .val (.int v2), .val (.int v3), .val (.int v4), .val (.ref b796), .val (.ref rr), .val (.int (own_f (0 : Int32) nn v0)), .val (.int (own_f (1 : Int32) nn v1)), .val (.int (own_f (2 : Int32) nn v2)), .val (.int (own_f (3 : Int32) nn v3)), .val (.int (own_f (4 : Int32) nn v4)), .val (.int (own_t (0 : Int32) nn v0)), .val (.int (own_t (1 : Int32) nn v1)), .val (.int (own_t (2 : Int32) nn v2)), .val (.int (own_t (3 : Int32) nn v3)), .unset, .unset, .unset, .unset, .unset, .unset] [(.int (own_f (4 : Int32) nn v4)), (.int ((((own_f (0 : Int32) nn v0) + (own_f (1 : Int32) nn v1)) + (own_f (2 : Int32) nn v2)) + (own_f (3 : Int32) nn v3)))])) _
      refine XS.iadd Xc.here hx rfl (hb hby at_326) rfl ?_
      show Steps p.tables e below (Tc.setTop (mkF m 327 #[.val (.int p0), .val (.int p1), .val (.int nn), .val (.int v0), .val (.int v1), .val (.int v2), .val (.int v3), .val (.int v4), .val (.ref b796), .val (.ref rr), .val (.int (own_f (0 : Int32) nn v0)), .val (.int (own_f (1 : Int32) nn v1)), .val (.int (own_f (2 : Int32) nn v2)), .val (.int (own_f (3 : Int32) nn v3)), .val (.int (own_f (4 : Int32) nn v4)), .val (.int (own_t (0 : Int32) nn v0)), .val (.int (own_t (1 : Int32) nn v1)), .val (.int (own_t (2 : Int32) nn v2)), .val (.int (own_t (3 : Int32) nn v3)), .unset, .unset, .unset, .unset, .unset, .unset] [(.int (((((own_f (0 : Int32) nn v0) + (own_f (1 : Int32) nn v1)) + (own_f (2 : Int32) nn v2)) + (own_f (3 : Int32) nn v3)) + (own_f (4 : Int32) nn v4)))])) _
      rw [show (((((own_f (0 : Int32) nn v0) + (own_f (1 : Int32) nn v1)) + (own_f (2 : Int32) nn v2)) + (own_f (3 : Int32) nn v3)) + (own_f (4 : Int32) nn v4)) = (own_fal nn v0 v1 v2 v3 v4) from rfl]
      show Steps p.tables e below (Tc.setTop (mkF m 327 #[.val (.int p0), .val (.int p1), .val (.int nn), .val (.int v0), .val (.int v1), .val (.int v2), .val (.int v3), .val (.int v4), .val (.ref b796), .val (.ref rr), .val (.int (own_f (0 : Int32) nn v0)), .val (.int (own_f (1 : Int32) nn v1)), .val (.int (own_f (2 : Int32) nn v2)), .val (.int (own_f (3 : Int32) nn v3)), .val (.int (own_f (4 : Int32) nn v4)), .val (.int (own_t (0 : Int32) nn v0)), .val (.int (own_t (1 : Int32) nn v1)), .val (.int (own_t (2 : Int32) nn v2)), .val (.int (own_t (3 : Int32) nn v3)), .unset, .unset, .unset, .unset, .unset, .unset] [(.int (own_fal nn v0 v1 v2 v3 v4))])) _
      refine XS.istore Xc.here hx rfl (hb hby at_327) rfl (l' := #[.val (.int p0), .val (.int p1), .val (.int nn), .val (.int v0), .val (.int v1), .val (.int v2), .val (.int v3), .val (.int v4), .val (.ref b796), .val (.ref rr), .val (.int (own_f (0 : Int32) nn v0)), .val (.int (own_f (1 : Int32) nn v1)), .val (.int (own_f (2 : Int32) nn v2)), .val (.int (own_f (3 : Int32) nn v3)), .val (.int (own_f (4 : Int32) nn v4)), .val (.int (own_t (0 : Int32) nn v0)), .val (.int (own_t (1 : Int32) nn v1)), .val (.int (own_t (2 : Int32) nn v2)), .val (.int (own_t (3 : Int32) nn v3)), .val (.int (own_fal nn v0 v1 v2 v3 v4)), .unset, .unset, .unset, .unset, .unset]) rfl ?_
      show Steps p.tables e below (Tc.setTop (mkF m 329 #[.val (.int p0), .val (.int p1), .val (.int nn), .val (.int v0), .val (.int v1), .val (.int v2), .val (.int v3), .val (.int v4), .val (.ref b796), .val (.ref rr), .val (.int (own_f (0 : Int32) nn v0)), .val (.int (own_f (1 : Int32) nn v1)), .val (.int (own_f (2 : Int32) nn v2)), .val (.int (own_f (3 : Int32) nn v3)), .val (.int (own_f (4 : Int32) nn v4)), .val (.int (own_t (0 : Int32) nn v0)), .val (.int (own_t (1 : Int32) nn v1)), .val (.int (own_t (2 : Int32) nn v2)), .val (.int (own_t (3 : Int32) nn v3)), .val (.int (own_fal nn v0 v1 v2 v3 v4)), .unset, .unset, .unset, .unset, .unset] [])) _
      exact kq)
    obtain ⟨q0, hG894, G894⟩ : ∃ (q0 : Int32), (q0 = (own_p0 nn v0 v1 v2 v3 v4)) ∧ Go p e below A0 (Tc.setTop (mkF m 339 #[.val (.int p0), .val (.int p1), .val (.int nn), .val (.int v0), .val (.int v1), .val (.int v2), .val (.int v3), .val (.int v4), .val (.ref b796), .val (.ref rr), .val (.int (own_f (0 : Int32) nn v0)), .val (.int (own_f (1 : Int32) nn v1)), .val (.int (own_f (2 : Int32) nn v2)), .val (.int (own_f (3 : Int32) nn v3)), .val (.int (own_f (4 : Int32) nn v4)), .val (.int (own_t (0 : Int32) nn v0)), .val (.int (own_t (1 : Int32) nn v1)), .val (.int (own_t (2 : Int32) nn v2)), .val (.int (own_t (3 : Int32) nn v3)), .val (.int (own_fal nn v0 v1 v2 v3 v4)), .unset, .unset, .unset, .unset, .unset] [(.int q0)])) := by
      have G895 : Go p e below A0 (Tc.setTop (mkF m 330 #[.val (.int p0), .val (.int p1), .val (.int nn), .val (.int v0), .val (.int v1), .val (.int v2), .val (.int v3), .val (.int v4), .val (.ref b796), .val (.ref rr), .val (.int (own_f (0 : Int32) nn v0)), .val (.int (own_f (1 : Int32) nn v1)), .val (.int (own_f (2 : Int32) nn v2)), .val (.int (own_f (3 : Int32) nn v3)), .val (.int (own_f (4 : Int32) nn v4)), .val (.int (own_t (0 : Int32) nn v0)), .val (.int (own_t (1 : Int32) nn v1)), .val (.int (own_t (2 : Int32) nn v2)), .val (.int (own_t (3 : Int32) nn v3)), .val (.int (own_fal nn v0 v1 v2 v3 v4)), .unset, .unset, .unset, .unset, .unset] [(.int v0)])) := fun tq kq => G893 tq (by
        refine XS.iloadN Xc.here hx rfl (hb hby at_329) rfl ?_
        show Steps p.tables e below (Tc.setTop (mkF m 330 #[.val (.int p0), .val (.int p1), .val (.int nn), .val (.int v0), .val (.int v1), .val (.int v2), .val (.int v3), .val (.int v4), .val (.ref b796), .val (.ref rr), .val (.int (own_f (0 : Int32) nn v0)), .val (.int (own_f (1 : Int32) nn v1)), .val (.int (own_f (2 : Int32) nn v2)), .val (.int (own_f (3 : Int32) nn v3)), .val (.int (own_f (4 : Int32) nn v4)), .val (.int (own_t (0 : Int32) nn v0)), .val (.int (own_t (1 : Int32) nn v1)), .val (.int (own_t (2 : Int32) nn v2)), .val (.int (own_t (3 : Int32) nn v3)), .val (.int (own_fal nn v0 v1 v2 v3 v4)), .unset, .unset, .unset, .unset, .unset] [(.int v0)])) _
        exact kq)
      by_cases hc896 : v0 = (0 : Int32)
      · have G897 : Go p e below A0 (Tc.setTop (mkF m 339 #[.val (.int p0), .val (.int p1), .val (.int nn), .val (.int v0), .val (.int v1), .val (.int v2), .val (.int v3), .val (.int v4), .val (.ref b796), .val (.ref rr), .val (.int (own_f (0 : Int32) nn v0)), .val (.int (own_f (1 : Int32) nn v1)), .val (.int (own_f (2 : Int32) nn v2)), .val (.int (own_f (3 : Int32) nn v3)), .val (.int (own_f (4 : Int32) nn v4)), .val (.int (own_t (0 : Int32) nn v0)), .val (.int (own_t (1 : Int32) nn v1)), .val (.int (own_t (2 : Int32) nn v2)), .val (.int (own_t (3 : Int32) nn v3)), .val (.int (own_fal nn v0 v1 v2 v3 v4)), .unset, .unset, .unset, .unset, .unset] [(.int (0 : Int32))])) := fun tq kq => G895 tq (by
          refine XS.ifYes Xc.here hx rfl (pc0 := 330) (pc' := 338) rfl (hb hby at_330) rfl ((if0 _ _).trans (teq hc896).1) (by decide) (by decide) ?_
          show Steps p.tables e below (Tc.setTop (mkF m 338 #[.val (.int p0), .val (.int p1), .val (.int nn), .val (.int v0), .val (.int v1), .val (.int v2), .val (.int v3), .val (.int v4), .val (.ref b796), .val (.ref rr), .val (.int (own_f (0 : Int32) nn v0)), .val (.int (own_f (1 : Int32) nn v1)), .val (.int (own_f (2 : Int32) nn v2)), .val (.int (own_f (3 : Int32) nn v3)), .val (.int (own_f (4 : Int32) nn v4)), .val (.int (own_t (0 : Int32) nn v0)), .val (.int (own_t (1 : Int32) nn v1)), .val (.int (own_t (2 : Int32) nn v2)), .val (.int (own_t (3 : Int32) nn v3)), .val (.int (own_fal nn v0 v1 v2 v3 v4)), .unset, .unset, .unset, .unset, .unset] [])) _
          refine XS.iconst Xc.here hx rfl (hb hby at_338) ?_
          show Steps p.tables e below (Tc.setTop (mkF m 339 #[.val (.int p0), .val (.int p1), .val (.int nn), .val (.int v0), .val (.int v1), .val (.int v2), .val (.int v3), .val (.int v4), .val (.ref b796), .val (.ref rr), .val (.int (own_f (0 : Int32) nn v0)), .val (.int (own_f (1 : Int32) nn v1)), .val (.int (own_f (2 : Int32) nn v2)), .val (.int (own_f (3 : Int32) nn v3)), .val (.int (own_f (4 : Int32) nn v4)), .val (.int (own_t (0 : Int32) nn v0)), .val (.int (own_t (1 : Int32) nn v1)), .val (.int (own_t (2 : Int32) nn v2)), .val (.int (own_t (3 : Int32) nn v3)), .val (.int (own_fal nn v0 v1 v2 v3 v4)), .unset, .unset, .unset, .unset, .unset] [(.int (0 : Int32))])) _
          exact kq)
        exact ⟨(0 : Int32), (by exact (if_pos hc896).symm), G897⟩
      · have G898 : Go p e below A0 (Tc.setTop (mkF m 339 #[.val (.int p0), .val (.int p1), .val (.int nn), .val (.int v0), .val (.int v1), .val (.int v2), .val (.int v3), .val (.int v4), .val (.ref b796), .val (.ref rr), .val (.int (own_f (0 : Int32) nn v0)), .val (.int (own_f (1 : Int32) nn v1)), .val (.int (own_f (2 : Int32) nn v2)), .val (.int (own_f (3 : Int32) nn v3)), .val (.int (own_f (4 : Int32) nn v4)), .val (.int (own_t (0 : Int32) nn v0)), .val (.int (own_t (1 : Int32) nn v1)), .val (.int (own_t (2 : Int32) nn v2)), .val (.int (own_t (3 : Int32) nn v3)), .val (.int (own_fal nn v0 v1 v2 v3 v4)), .unset, .unset, .unset, .unset, .unset] [(.int (own_fal nn v0 v1 v2 v3 v4))])) := fun tq kq => G895 tq (by
          refine XS.ifNo Xc.here hx rfl (hb hby at_330) rfl ((if0 _ _).trans (feq hc896).1) ?_
          show Steps p.tables e below (Tc.setTop (mkF m 333 #[.val (.int p0), .val (.int p1), .val (.int nn), .val (.int v0), .val (.int v1), .val (.int v2), .val (.int v3), .val (.int v4), .val (.ref b796), .val (.ref rr), .val (.int (own_f (0 : Int32) nn v0)), .val (.int (own_f (1 : Int32) nn v1)), .val (.int (own_f (2 : Int32) nn v2)), .val (.int (own_f (3 : Int32) nn v3)), .val (.int (own_f (4 : Int32) nn v4)), .val (.int (own_t (0 : Int32) nn v0)), .val (.int (own_t (1 : Int32) nn v1)), .val (.int (own_t (2 : Int32) nn v2)), .val (.int (own_t (3 : Int32) nn v3)), .val (.int (own_fal nn v0 v1 v2 v3 v4)), .unset, .unset, .unset, .unset, .unset] [])) _
          refine XS.iload Xc.here hx rfl (hb hby at_333) rfl ?_
          show Steps p.tables e below (Tc.setTop (mkF m 335 #[.val (.int p0), .val (.int p1), .val (.int nn), .val (.int v0), .val (.int v1), .val (.int v2), .val (.int v3), .val (.int v4), .val (.ref b796), .val (.ref rr), .val (.int (own_f (0 : Int32) nn v0)), .val (.int (own_f (1 : Int32) nn v1)), .val (.int (own_f (2 : Int32) nn v2)), .val (.int (own_f (3 : Int32) nn v3)), .val (.int (own_f (4 : Int32) nn v4)), .val (.int (own_t (0 : Int32) nn v0)), .val (.int (own_t (1 : Int32) nn v1)), .val (.int (own_t (2 : Int32) nn v2)), .val (.int (own_t (3 : Int32) nn v3)), .val (.int (own_fal nn v0 v1 v2 v3 v4)), .unset, .unset, .unset, .unset, .unset] [(.int (own_fal nn v0 v1 v2 v3 v4))])) _
          refine XS.goto Xc.here hx rfl (pc0 := 335) (pc' := 339) rfl (hb hby at_335) (by decide) (by decide) ?_
          show Steps p.tables e below (Tc.setTop (mkF m 339 #[.val (.int p0), .val (.int p1), .val (.int nn), .val (.int v0), .val (.int v1), .val (.int v2), .val (.int v3), .val (.int v4), .val (.ref b796), .val (.ref rr), .val (.int (own_f (0 : Int32) nn v0)), .val (.int (own_f (1 : Int32) nn v1)), .val (.int (own_f (2 : Int32) nn v2)), .val (.int (own_f (3 : Int32) nn v3)), .val (.int (own_f (4 : Int32) nn v4)), .val (.int (own_t (0 : Int32) nn v0)), .val (.int (own_t (1 : Int32) nn v1)), .val (.int (own_t (2 : Int32) nn v2)), .val (.int (own_t (3 : Int32) nn v3)), .val (.int (own_fal nn v0 v1 v2 v3 v4)), .unset, .unset, .unset, .unset, .unset] [(.int (own_fal nn v0 v1 v2 v3 v4))])) _
          exact kq)
        exact ⟨(own_fal nn v0 v1 v2 v3 v4), (by exact (if_neg hc896).symm), G898⟩
    subst hG894
    have G899 : Go p e below A0 (Tc.setTop (mkF m 341 #[.val (.int p0), .val (.int p1), .val (.int nn), .val (.int v0), .val (.int v1), .val (.int v2), .val (.int v3), .val (.int v4), .val (.ref b796), .val (.ref rr), .val (.int (own_f (0 : Int32) nn v0)), .val (.int (own_f (1 : Int32) nn v1)), .val (.int (own_f (2 : Int32) nn v2)), .val (.int (own_f (3 : Int32) nn v3)), .val (.int (own_f (4 : Int32) nn v4)), .val (.int (own_t (0 : Int32) nn v0)), .val (.int (own_t (1 : Int32) nn v1)), .val (.int (own_t (2 : Int32) nn v2)), .val (.int (own_t (3 : Int32) nn v3)), .val (.int (own_fal nn v0 v1 v2 v3 v4)), .val (.int (own_p0 nn v0 v1 v2 v3 v4)), .unset, .unset, .unset, .unset] [])) := fun tq kq => G894 tq (by
      refine XS.istore Xc.here hx rfl (hb hby at_339) rfl (l' := #[.val (.int p0), .val (.int p1), .val (.int nn), .val (.int v0), .val (.int v1), .val (.int v2), .val (.int v3), .val (.int v4), .val (.ref b796), .val (.ref rr), .val (.int (own_f (0 : Int32) nn v0)), .val (.int (own_f (1 : Int32) nn v1)), .val (.int (own_f (2 : Int32) nn v2)), .val (.int (own_f (3 : Int32) nn v3)), .val (.int (own_f (4 : Int32) nn v4)), .val (.int (own_t (0 : Int32) nn v0)), .val (.int (own_t (1 : Int32) nn v1)), .val (.int (own_t (2 : Int32) nn v2)), .val (.int (own_t (3 : Int32) nn v3)), .val (.int (own_fal nn v0 v1 v2 v3 v4)), .val (.int (own_p0 nn v0 v1 v2 v3 v4)), .unset, .unset, .unset, .unset]) rfl ?_
      show Steps p.tables e below (Tc.setTop (mkF m 341 #[.val (.int p0), .val (.int p1), .val (.int nn), .val (.int v0), .val (.int v1), .val (.int v2), .val (.int v3), .val (.int v4), .val (.ref b796), .val (.ref rr), .val (.int (own_f (0 : Int32) nn v0)), .val (.int (own_f (1 : Int32) nn v1)), .val (.int (own_f (2 : Int32) nn v2)), .val (.int (own_f (3 : Int32) nn v3)), .val (.int (own_f (4 : Int32) nn v4)), .val (.int (own_t (0 : Int32) nn v0)), .val (.int (own_t (1 : Int32) nn v1)), .val (.int (own_t (2 : Int32) nn v2)), .val (.int (own_t (3 : Int32) nn v3)), .val (.int (own_fal nn v0 v1 v2 v3 v4)), .val (.int (own_p0 nn v0 v1 v2 v3 v4)), .unset, .unset, .unset, .unset] [])) _
      exact kq)
    obtain ⟨q1, hG900, G900⟩ : ∃ (q1 : Int32), (q1 = (own_p1 nn v0 v1 v2 v3 v4)) ∧ Go p e below A0 (Tc.setTop (mkF m 356 #[.val (.int p0), .val (.int p1), .val (.int nn), .val (.int v0), .val (.int v1), .val (.int v2), .val (.int v3), .val (.int v4), .val (.ref b796), .val (.ref rr), .val (.int (own_f (0 : Int32) nn v0)), .val (.int (own_f (1 : Int32) nn v1)), .val (.int (own_f (2 : Int32) nn v2)), .val (.int (own_f (3 : Int32) nn v3)), .val (.int (own_f (4 : Int32) nn v4)), .val (.int (own_t (0 : Int32) nn v0)), .val (.int (own_t (1 : Int32) nn v1)), .val (.int (own_t (2 : Int32) nn v2)), .val (.int (own_t (3 : Int32) nn v3)), .val (.int (own_fal nn v0 v1 v2 v3 v4)), .val (.int (own_p0 nn v0 v1 v2 v3 v4)), .unset, .unset, .unset, .unset] [(.int q1)])) := by
      have G901 : Go p e below A0 (Tc.setTop (mkF m 343 #[.val (.int p0), .val (.int p1), .val (.int nn), .val (.int v0), .val (.int v1), .val (.int v2), .val (.int v3), .val (.int v4), .val (.ref b796), .val (.ref rr), .val (.int (own_f (0 : Int32) nn v0)), .val (.int (own_f (1 : Int32) nn v1)), .val (.int (own_f (2 : Int32) nn v2)), .val (.int (own_f (3 : Int32) nn v3)), .val (.int (own_f (4 : Int32) nn v4)), .val (.int (own_t (0 : Int32) nn v0)), .val (.int (own_t (1 : Int32) nn v1)), .val (.int (own_t (2 : Int32) nn v2)), .val (.int (own_t (3 : Int32) nn v3)), .val (.int (own_fal nn v0 v1 v2 v3 v4)), .val (.int (own_p0 nn v0 v1 v2 v3 v4)), .unset, .unset, .unset, .unset] [(.int v1)])) := fun tq kq => G899 tq (by
        refine XS.iload Xc.here hx rfl (hb hby at_341) rfl ?_
        show Steps p.tables e below (Tc.setTop (mkF m 343 #[.val (.int p0), .val (.int p1), .val (.int nn), .val (.int v0), .val (.int v1), .val (.int v2), .val (.int v3), .val (.int v4), .val (.ref b796), .val (.ref rr), .val (.int (own_f (0 : Int32) nn v0)), .val (.int (own_f (1 : Int32) nn v1)), .val (.int (own_f (2 : Int32) nn v2)), .val (.int (own_f (3 : Int32) nn v3)), .val (.int (own_f (4 : Int32) nn v4)), .val (.int (own_t (0 : Int32) nn v0)), .val (.int (own_t (1 : Int32) nn v1)), .val (.int (own_t (2 : Int32) nn v2)), .val (.int (own_t (3 : Int32) nn v3)), .val (.int (own_fal nn v0 v1 v2 v3 v4)), .val (.int (own_p0 nn v0 v1 v2 v3 v4)), .unset, .unset, .unset, .unset] [(.int v1)])) _
        exact kq)
      by_cases hc902 : v1 = (0 : Int32)
      · have G903 : Go p e below A0 (Tc.setTop (mkF m 356 #[.val (.int p0), .val (.int p1), .val (.int nn), .val (.int v0), .val (.int v1), .val (.int v2), .val (.int v3), .val (.int v4), .val (.ref b796), .val (.ref rr), .val (.int (own_f (0 : Int32) nn v0)), .val (.int (own_f (1 : Int32) nn v1)), .val (.int (own_f (2 : Int32) nn v2)), .val (.int (own_f (3 : Int32) nn v3)), .val (.int (own_f (4 : Int32) nn v4)), .val (.int (own_t (0 : Int32) nn v0)), .val (.int (own_t (1 : Int32) nn v1)), .val (.int (own_t (2 : Int32) nn v2)), .val (.int (own_t (3 : Int32) nn v3)), .val (.int (own_fal nn v0 v1 v2 v3 v4)), .val (.int (own_p0 nn v0 v1 v2 v3 v4)), .unset, .unset, .unset, .unset] [(.int (own_f (0 : Int32) nn v0))])) := fun tq kq => G901 tq (by
          refine XS.ifYes Xc.here hx rfl (pc0 := 343) (pc' := 354) rfl (hb hby at_343) rfl ((if0 _ _).trans (teq hc902).1) (by decide) (by decide) ?_
          show Steps p.tables e below (Tc.setTop (mkF m 354 #[.val (.int p0), .val (.int p1), .val (.int nn), .val (.int v0), .val (.int v1), .val (.int v2), .val (.int v3), .val (.int v4), .val (.ref b796), .val (.ref rr), .val (.int (own_f (0 : Int32) nn v0)), .val (.int (own_f (1 : Int32) nn v1)), .val (.int (own_f (2 : Int32) nn v2)), .val (.int (own_f (3 : Int32) nn v3)), .val (.int (own_f (4 : Int32) nn v4)), .val (.int (own_t (0 : Int32) nn v0)), .val (.int (own_t (1 : Int32) nn v1)), .val (.int (own_t (2 : Int32) nn v2)), .val (.int (own_t (3 : Int32) nn v3)), .val (.int (own_fal nn v0 v1 v2 v3 v4)), .val (.int (own_p0 nn v0 v1 v2 v3 v4)), .unset, .unset, .unset, .unset] [])) _
          refine XS.iload Xc.here hx rfl (hb hby at_354) rfl ?_
          show Steps p.tables e below (Tc.setTop (mkF m 356 #[.val (.int p0), .val (.int p1), .val (.int nn), .val (.int v0), .val (.int v1), .val (.int v2), .val (.int v3), .val (.int v4), .val (.ref b796), .val (.ref rr), .val (.int (own_f (0 : Int32) nn v0)), .val (.int (own_f (1 : Int32) nn v1)), .val (.int (own_f (2 : Int32) nn v2)), .val (.int (own_f (3 : Int32) nn v3)), .val (.int (own_f (4 : Int32) nn v4)), .val (.int (own_t (0 : Int32) nn v0)), .val (.int (own_t (1 : Int32) nn v1)), .val (.int (own_t (2 : Int32) nn v2)), .val (.int (own_t (3 : Int32) nn v3)), .val (.int (own_fal nn v0 v1 v2 v3 v4)), .val (.int (own_p0 nn v0 v1 v2 v3 v4)), .unset, .unset, .unset, .unset] [(.int (own_f (0 : Int32) nn v0))])) _
          exact kq)
        exact ⟨(own_f (0 : Int32) nn v0), (by exact (if_pos hc902).symm), G903⟩
      · have G904 : Go p e below A0 (Tc.setTop (mkF m 356 #[.val (.int p0), .val (.int p1), .val (.int nn), .val (.int v0), .val (.int v1), .val (.int v2), .val (.int v3), .val (.int v4), .val (.ref b796), .val (.ref rr), .val (.int (own_f (0 : Int32) nn v0)), .val (.int (own_f (1 : Int32) nn v1)), .val (.int (own_f (2 : Int32) nn v2)), .val (.int (own_f (3 : Int32) nn v3)), .val (.int (own_f (4 : Int32) nn v4)), .val (.int (own_t (0 : Int32) nn v0)), .val (.int (own_t (1 : Int32) nn v1)), .val (.int (own_t (2 : Int32) nn v2)), .val (.int (own_t (3 : Int32) nn v3)), .val (.int (own_fal nn v0 v1 v2 v3 v4)), .val (.int (own_p0 nn v0 v1 v2 v3 v4)), .unset, .unset, .unset, .unset] [(.int ((own_fal nn v0 v1 v2 v3 v4) + (own_t (0 : Int32) nn v0)))])) := fun tq kq => G901 tq (by
          refine XS.ifNo Xc.here hx rfl (hb hby at_343) rfl ((if0 _ _).trans (feq hc902).1) ?_
          show Steps p.tables e below (Tc.setTop (mkF m 346 #[.val (.int p0), .val (.int p1), .val (.int nn), .val (.int v0), .val (.int v1), .val (.int v2), .val (.int v3), .val (.int v4), .val (.ref b796), .val (.ref rr), .val (.int (own_f (0 : Int32) nn v0)), .val (.int (own_f (1 : Int32) nn v1)), .val (.int (own_f (2 : Int32) nn v2)), .val (.int (own_f (3 : Int32) nn v3)), .val (.int (own_f (4 : Int32) nn v4)), .val (.int (own_t (0 : Int32) nn v0)), .val (.int (own_t (1 : Int32) nn v1)), .val (.int (own_t (2 : Int32) nn v2)), .val (.int (own_t (3 : Int32) nn v3)), .val (.int (own_fal nn v0 v1 v2 v3 v4)), .val (.int (own_p0 nn v0 v1 v2 v3 v4)), .unset, .unset, .unset, .unset] [])) _
          refine XS.iload Xc.here hx rfl (hb hby at_346) rfl ?_
          show Steps p.tables e below (Tc.setTop (mkF m 348 #[.val (.int p0), .val (.int p1), .val (.int nn), .val (.int v0), .val (.int v1), .val (.int v2), .val (.int v3), .val (.int v4), .val (.ref b796), .val (.ref rr), .val (.int (own_f (0 : Int32) nn v0)), .val (.int (own_f (1 : Int32) nn v1)), .val (.int (own_f (2 : Int32) nn v2)), .val (.int (own_f (3 : Int32) nn v3)), .val (.int (own_f (4 : Int32) nn v4)), .val (.int (own_t (0 : Int32) nn v0)), .val (.int (own_t (1 : Int32) nn v1)), .val (.int (own_t (2 : Int32) nn v2)), .val (.int (own_t (3 : Int32) nn v3)), .val (.int (own_fal nn v0 v1 v2 v3 v4)), .val (.int (own_p0 nn v0 v1 v2 v3 v4)), .unset, .unset, .unset, .unset] [(.int (own_fal nn v0 v1 v2 v3 v4))])) _
          refine XS.iload Xc.here hx rfl (hb hby at_348) rfl ?_
          show Steps p.tables e below (Tc.setTop (mkF m 350 #[.val (.int p0), .val (.int p1), .val (.int nn), .val (.int v0), .val (.int v1), .val (.int v2), .val (.int v3), .val (.int v4), .val (.ref b796), .val (.ref rr), .val (.int (own_f (0 : Int32) nn v0)), .val (.int (own_f (1 : Int32) nn v1)), .val (.int (own_f (2 : Int32) nn v2)), .val (.int (own_f (3 : Int32) nn v3)), .val (.int (own_f (4 : Int32) nn v4)), .val (.int (own_t (0 : Int32) nn v0)), .val (.int (own_t (1 : Int32) nn v1)), .val (.int (own_t (2 : Int32) nn v2)), .val (.int (own_t (3 : Int32) nn v3)), .val (.int (own_fal nn v0 v1 v2 v3 v4)), .val (.int (own_p0 nn v0 v1 v2 v3 v4)), .unset, .unset, .unset, .unset] [(.int (own_t (0 : Int32) nn v0)), (.int (own_fal nn v0 v1 v2 v3 v4))])) _
          refine XS.iadd Xc.here hx rfl (hb hby at_350) rfl ?_
          show Steps p.tables e below (Tc.setTop (mkF m 351 #[.val (.int p0), .val (.int p1), .val (.int nn), .val (.int v0), .val (.int v1), .val (.int v2), .val (.int v3), .val (.int v4), .val (.ref b796), .val (.ref rr), .val (.int (own_f (0 : Int32) nn v0)), .val (.int (own_f (1 : Int32) nn v1)), .val (.int (own_f (2 : Int32) nn v2)), .val (.int (own_f (3 : Int32) nn v3)), .val (.int (own_f (4 : Int32) nn v4)), .val (.int (own_t (0 : Int32) nn v0)), .val (.int (own_t (1 : Int32) nn v1)), .val (.int (own_t (2 : Int32) nn v2)), .val (.int (own_t (3 : Int32) nn v3)), .val (.int (own_fal nn v0 v1 v2 v3 v4)), .val (.int (own_p0 nn v0 v1 v2 v3 v4)), .unset, .unset, .unset, .unset] [(.int ((own_fal nn v0 v1 v2 v3 v4) + (own_t (0 : Int32) nn v0)))])) _
          refine XS.goto Xc.here hx rfl (pc0 := 351) (pc' := 356) rfl (hb hby at_351) (by decide) (by decide) ?_
          show Steps p.tables e below (Tc.setTop (mkF m 356 #[.val (.int p0), .val (.int p1), .val (.int nn), .val (.int v0), .val (.int v1), .val (.int v2), .val (.int v3), .val (.int v4), .val (.ref b796), .val (.ref rr), .val (.int (own_f (0 : Int32) nn v0)), .val (.int (own_f (1 : Int32) nn v1)), .val (.int (own_f (2 : Int32) nn v2)), .val (.int (own_f (3 : Int32) nn v3)), .val (.int (own_f (4 : Int32) nn v4)), .val (.int (own_t (0 : Int32) nn v0)), .val (.int (own_t (1 : Int32) nn v1)), .val (.int (own_t (2 : Int32) nn v2)), .val (.int (own_t (3 : Int32) nn v3)), .val (.int (own_fal nn v0 v1 v2 v3 v4)), .val (.int (own_p0 nn v0 v1 v2 v3 v4)), .unset, .unset, .unset, .unset] [(.int ((own_fal nn v0 v1 v2 v3 v4) + (own_t (0 : Int32) nn v0)))])) _
          exact kq)
        exact ⟨((own_fal nn v0 v1 v2 v3 v4) + (own_t (0 : Int32) nn v0)), (by exact (if_neg hc902).symm), G904⟩
    subst hG900
    have G905 : Go p e below A0 (Tc.setTop (mkF m 358 #[.val (.int p0), .val (.int p1), .val (.int nn), .val (.int v0), .val (.int v1), .val (.int v2), .val (.int v3), .val (.int v4), .val (.ref b796), .val (.ref rr), .val (.int (own_f (0 : Int32) nn v0)), .val (.int (own_f (1 : Int32) nn v1)), .val (.int (own_f (2 : Int32) nn v2)), .val (.int (own_f (3 : Int32) nn v3)), .val (.int (own_f (4 : Int32) nn v4)), .val (.int (own_t (0 : Int32) nn v0)), .val (.int (own_t (1 : Int32) nn v1)), .val (.int (own_t (2 : Int32) nn v2)), .val (.int (own_t (3 : Int32) nn v3)), .val (.int (own_fal nn v0 v1 v2 v3 v4)), .val (.int (own_p0 nn v0 v1 v2 v3 v4)), .val (.int (own_p1 nn v0 v1 v2 v3 v4)), .unset, .unset, .unset] [])) := fun tq kq => G900 tq (by
      refine XS.istore Xc.here hx rfl (hb hby at_356) rfl (l' := #[.val (.int p0), .val (.int p1), .val (.int nn), .val (.int v0), .val (.int v1), .val (.int v2), .val (.int v3), .val (.int v4), .val (.ref b796), .val (.ref rr), .val (.int (own_f (0 : Int32) nn v0)), .val (.int (own_f (1 : Int32) nn v1)), .val (.int (own_f (2 : Int32) nn v2)), .val (.int (own_f (3 : Int32) nn v3)), .val (.int (own_f (4 : Int32) nn v4)), .val (.int (own_t (0 : Int32) nn v0)), .val (.int (own_t (1 : Int32) nn v1)), .val (.int (own_t (2 : Int32) nn v2)), .val (.int (own_t (3 : Int32) nn v3)), .val (.int (own_fal nn v0 v1 v2 v3 v4)), .val (.int (own_p0 nn v0 v1 v2 v3 v4)), .val (.int (own_p1 nn v0 v1 v2 v3 v4)), .unset, .unset, .unset]) rfl ?_
      show Steps p.tables e below (Tc.setTop (mkF m 358 #[.val (.int p0), .val (.int p1), .val (.int nn), .val (.int v0), .val (.int v1), .val (.int v2), .val (.int v3), .val (.int v4), .val (.ref b796), .val (.ref rr), .val (.int (own_f (0 : Int32) nn v0)), .val (.int (own_f (1 : Int32) nn v1)), .val (.int (own_f (2 : Int32) nn v2)), .val (.int (own_f (3 : Int32) nn v3)), .val (.int (own_f (4 : Int32) nn v4)), .val (.int (own_t (0 : Int32) nn v0)), .val (.int (own_t (1 : Int32) nn v1)), .val (.int (own_t (2 : Int32) nn v2)), .val (.int (own_t (3 : Int32) nn v3)), .val (.int (own_fal nn v0 v1 v2 v3 v4)), .val (.int (own_p0 nn v0 v1 v2 v3 v4)), .val (.int (own_p1 nn v0 v1 v2 v3 v4)), .unset, .unset, .unset] [])) _
      exact kq)
    obtain ⟨q2, hG906, G906⟩ : ∃ (q2 : Int32), (q2 = (own_p2 nn v0 v1 v2 v3 v4)) ∧ Go p e below A0 (Tc.setTop (mkF m 379 #[.val (.int p0), .val (.int p1), .val (.int nn), .val (.int v0), .val (.int v1), .val (.int v2), .val (.int v3), .val (.int v4), .val (.ref b796), .val (.ref rr), .val (.int (own_f (0 : Int32) nn v0)), .val (.int (own_f (1 : Int32) nn v1)), .val (.int (own_f (2 : Int32) nn v2)), .val (.int (own_f (3 : Int32) nn v3)), .val (.int (own_f (4 : Int32) nn v4)), .val (.int (own_t (0 : Int32) nn v0)), .val (.int (own_t (1 : Int32) nn v1)), .val (.int (own_t (2 : Int32) nn v2)), .val (.int (own_t (3 : Int32) nn v3)), .val (.int (own_fal nn v0 v1 v2 v3 v4)), .val (.int (own_p0 nn v0 v1 v2 v3 v4)), .val (.int (own_p1 nn v0 v1 v2 v3 v4)), .unset, .unset, .unset] [(.int q2)])) := by
      have G907 : Go p e below A0 (Tc.setTop (mkF m 360 #[.val (.int p0), .val (.int p1), .val (.int nn), .val (.int v0), .val (.int v1), .val (.int v2), .val (.int v3), .val (.int v4), .val (.ref b796), .val (.ref rr), .val (.int (own_f (0 : Int32) nn v0)), .val (.int (own_f (1 : Int32) nn v1)), .val (.int (own_f (2 : Int32) nn v2)), .val (.int (own_f (3 : Int32) nn v3)), .val (.int (own_f (4 : Int32) nn v4)), .val (.int (own_t (0 : Int32) nn v0)), .val (.int (own_t (1 : Int32) nn v1)), .val (.int (own_t (2 : Int32) nn v2)), .val (.int (own_t (3 : Int32) nn v3)), .val (.int (own_fal nn v0 v1 v2 v3 v4)), .val (.int (own_p0 nn v0 v1 v2 v3 v4)), .val (.int (own_p1 nn v0 v1 v2 v3 v4)), .unset, .unset, .unset] [(.int v2)])) := fun tq kq => G905 tq (by
        refine XS.iload Xc.here hx rfl (hb hby at_358) rfl ?_
        show Steps p.tables e below (Tc.setTop (mkF m 360 #[.val (.int p0), .val (.int p1), .val (.int nn), .val (.int v0), .val (.int v1), .val (.int v2), .val (.int v3), .val (.int v4), .val (.ref b796), .val (.ref rr), .val (.int (own_f (0 : Int32) nn v0)), .val (.int (own_f (1 : Int32) nn v1)), .val (.int (own_f (2 : Int32) nn v2)), .val (.int (own_f (3 : Int32) nn v3)), .val (.int (own_f (4 : Int32) nn v4)), .val (.int (own_t (0 : Int32) nn v0)), .val (.int (own_t (1 : Int32) nn v1)), .val (.int (own_t (2 : Int32) nn v2)), .val (.int (own_t (3 : Int32) nn v3)), .val (.int (own_fal nn v0 v1 v2 v3 v4)), .val (.int (own_p0 nn v0 v1 v2 v3 v4)), .val (.int (own_p1 nn v0 v1 v2 v3 v4)), .unset, .unset, .unset] [(.int v2)])) _
        exact kq)
      by_cases hc908 : v2 = (0 : Int32)
      · have G909 : Go p e below A0 (Tc.setTop (mkF m 379 #[.val (.int p0), .val (.int p1), .val (.int nn), .val (.int v0), .val (.int v1), .val (.int v2), .val (.int v3), .val (.int v4), .val (.ref b796), .val (.ref rr), .val (.int (own_f (0 : Int32) nn v0)), .val (.int (own_f (1 : Int32) nn v1)), .val (.int (own_f (2 : Int32) nn v2)), .val (.int (own_f (3 : Int32) nn v3)), .val (.int (own_f (4 : Int32) nn v4)), .val (.int (own_t (0 : Int32) nn v0)), .val (.int (own_t (1 : Int32) nn v1)), .val (.int (own_t (2 : Int32) nn v2)), .val (.int (own_t (3 : Int32) nn v3)), .val (.int (own_fal nn v0 v1 v2 v3 v4)), .val (.int (own_p0 nn v0 v1 v2 v3 v4)), .val (.int (own_p1 nn v0 v1 v2 v3 v4)), .unset, .unset, .unset] [(.int ((own_f (0 : Int32) nn v0) + (own_f (1 : Int32) nn v1)))])) := fun tq kq => G907 tq (by
          refine XS.ifYes Xc.here hx rfl (pc0 := 360) (pc' := 374) rfl (hb hby at_360) rfl ((if0 _ _).trans (teq hc908).1) (by decide) (by decide) ?_
          show Steps p.tables e below (Tc.setTop (mkF m 374 #[.val (.int p0), .val (.int p1), .val (.int nn), .val (.int v0), .val (.int v1), .val (.int v2), .val (.int v3), .val (.int v4), .val (.ref b796), .val (.ref rr), .val (.int (own_f (0 : Int32) nn v0)), .val (.int (own_f (1 : Int32) nn v1)), .val (.int (own_f (2 : Int32) nn v2)), .val (.int (own_f (3 : Int32) nn v3)), .val (.int (own_f (4 : Int32) nn v4)), .val (.int (own_t (0 : Int32) nn v0)), .val (.int (own_t (1 : Int32) nn v1)), .val (.int (own_t (2 : Int32) nn v2)), .val (.int (own_t (3 : Int32) nn v3)), .val (.int (own_fal nn v0 v1 v2 v3 v4)), .val (.int (own_p0 nn v0 v1 v2 v3 v4)), .val (.int (own_p1 nn v0 v1 v2 v3 v4)), .unset, .unset, .unset] [])) _
          refine XS.iload Xc.here hx rfl (hb hby at_374) rfl ?_
          show Steps p.tables e below (Tc.setTop (mkF m 376 #[.val (.int p0), .val (.int p1), .val (.int nn), .val (.int v0), .val (.int v1), .val (.int v2), .val (.int v3), .val (.int v4), .val (.ref b796), .val (.ref rr), .val (.int (own_f (0 : Int32) nn v0)), .val (.int (own_f (1 : Int32) nn v1)), .val (.int (own_f (2 : Int32) nn v2)), .val (.int (own_f (3 : Int32) nn v3)), .val (.int (own_f (4 : Int32) nn v4)), .val (.int (own_t (0 : Int32) nn v0)), .val (.int (own_t (1 : Int32) nn v1)), .val (.int (own_t (2 : Int32) nn v2)), .val (.int (own_t (3 : Int32) nn v3)), .val (.int (own_fal nn v0 v1 v2 v3 v4)), .val (.int (own_p0 nn v0 v1 v2 v3 v4)), .val (.int (own_p1 nn v0 v1 v2 v3 v4)), .unset, .unset, .unset] [(.int (own_f (0 : Int32) nn v0))])) _
          refine XS.iload Xc.here hx rfl (hb hby at_376) rfl ?_
          show Steps p.tables e below (Tc.setTop (mkF m 378 #[.val (.int p0), .val (.int p1), .val (.int nn), .val (.int v0), .val (.int v1), .val (.int v2), .val (.int v3), .val (.int v4), .val (.ref b796), .val (.ref rr), .val (.int (own_f (0 : Int32) nn v0)), .val (.int (own_f (1 : Int32) nn v1)), .val (.int (own_f (2 : Int32) nn v2)), .val (.int (own_f (3 : Int32) nn v3)), .val (.int (own_f (4 : Int32) nn v4)), .val (.int (own_t (0 : Int32) nn v0)), .val (.int (own_t (1 : Int32) nn v1)), .val (.int (own_t (2 : Int32) nn v2)), .val (.int (own_t (3 : Int32) nn v3)), .val (.int (own_fal nn v0 v1 v2 v3 v4)), .val (.int (own_p0 nn v0 v1 v2 v3 v4)), .val (.int (own_p1 nn v0 v1 v2 v3 v4)), .unset, .unset, .unset] [(.int (own_f (1 : Int32) nn v1)), (.int (own_f (0 : Int32) nn v0))])) _
          refine XS.iadd Xc.here hx rfl (hb hby at_378) rfl ?_
          show Steps p.tables e below (Tc.setTop (mkF m 379 #[.val (.int p0), .val (.int p1), .val (.int nn), .val (.int v0), .val (.int v1), .val (.int v2), .val (.int v3), .val (.int v4), .val (.ref b796), .val (.ref rr), .val (.int (own_f (0 : Int32) nn v0)), .val (.int (own_f (1 : Int32) nn v1)), .val (.int (own_f (2 : Int32) nn v2)), .val (.int (own_f (3 : Int32) nn v3)), .val (.int (own_f (4 : Int32) nn v4)), .val (.int (own_t (0 : Int32) nn v0)), .val (.int (own_t (1 : Int32) nn v1)), .val (.int (own_t (2 : Int32) nn v2)), .val (.int (own_t (3 : Int32) nn v3)), .val (.int (own_fal nn v0 v1 v2 v3 v4)), .val (.int (own_p0 nn v0 v1 v2 v3 v4)), .val (.int (own_p1 nn v0 v1 v2 v3 v4)), .unset, .unset, .unset] [(.int ((own_f (0 : Int32) nn v0) + (own_f (1 : Int32) nn v1)))])) _
          exact kq)
        exact ⟨((own_f (0 : Int32) nn v0) + (own_f (1 : Int32) nn v1)), (by exact (if_pos hc908).symm), G909⟩
      · have G910 : Go p e below A0 (Tc.setTop (mkF m 379 #[.val (.int p0), .val (.int p1), .val (.int nn), .val (.int v0), .val (.int v1), .val (.int v2), .val (.int v3), .val (.int v4), .val (.ref b796), .val (.ref rr), .val (.int (own_f (0 : Int32) nn v0)), .val (.int (own_f (1 : Int32) nn v1)), .val (.int (own_f (2 : Int32) nn v2)), .val (.int (own_f (3 : Int32) nn v3)), .val (.int (own_f (4 : Int32) nn v4)), .val (.int (own_t (0 : Int32) nn v0)), .val (.int (own_t (1 : Int32) nn v1)), .val (.int (own_t (2 : Int32) nn v2)), .val (.int (own_t (3 : Int32) nn v3)), .val (.int (own_fal nn v0 v1 v2 v3 v4)), .val (.int (own_p0 nn v0 v1 v2 v3 v4)), .val (.int (own_p1 nn v0 v1 v2 v3 v4)), .unset, .unset, .unset] [(.int (((own_fal nn v0 v1 v2 v3 v4) + (own_t (0 : Int32) nn v0)) + (own_t (1 : Int32) nn v1)))])) := fun tq kq => G907 tq (by
          refine XS.ifNo Xc.here hx rfl (hb hby at_360) rfl ((if0 _ _).trans (feq hc908).1) ?_
          show Steps p.tables e below (Tc.setTop (mkF m 363 #[.val (.int p0), .val (.int p1), .val (.int nn), .val (.int v0), .val (.int v1), .val (.int v2), .val (.int v3), .val (.int v4), .val (.ref b796), .val (.ref rr), .val (.int (own_f (0 : Int32) nn v0)), .val (.int (own_f (1 : Int32) nn v1)), .val (.int (own_f (2 : Int32) nn v2)), .val (.int (own_f (3 : Int32) nn v3)), .val (.int (own_f (4 : Int32) nn v4)), .val (.int (own_t (0 : Int32) nn v0)), .val (.int (own_t (1 : Int32) nn v1)), .val (.int (own_t (2 : Int32) nn v2)), .val (.int (own_t (3 : Int32) nn v3)), .val (.int (own_fal nn v0 v1 v2 v3 v4)), .val (.int (own_p0 nn v0 v1 v2 v3 v4)), .val (.int (own_p1 nn v0 v1 v2 v3 v4)), .unset, .unset, .unset] [])) _
          refine XS.iload Xc.here hx rfl (hb hby at_363) rfl ?_
          show Steps p.tables e below (Tc.setTop (mkF m 365 #[.val (.int p0), .val (.int p1), .val (.int nn), .val (.int v0), .val (.int v1), .val (.int v2), .val (.int v3), .val (.int v4), .val (.ref b796), .val (.ref rr), .val (.int (own_f (0 : Int32) nn v0)), .val (.int (own_f (1 : Int32) nn v1)), .val (.int (own_f (2 : Int32) nn v2)), .val (.int (own_f (3 : Int32) nn v3)), .val (.int (own_f (4 : Int32) nn v4)), .val (.int (own_t (0 : Int32) nn v0)), .val (.int (own_t (1 : Int32) nn v1)), .val (.int (own_t (2 : Int32) nn v2)), .val (.int (own_t (3 : Int32) nn v3)), .val (.int (own_fal nn v0 v1 v2 v3 v4)), .val (.int (own_p0 nn v0 v1 v2 v3 v4)), .val (.int (own_p1 nn v0 v1 v2 v3 v4)), .unset, .unset, .unset] [(.int (own_fal nn v0 v1 v2 v3 v4))])) _
          refine XS.iload Xc.here hx rfl (hb hby at_365) rfl ?_
          show Steps p.tables e below (Tc.setTop (mkF m 367 #[.val (.int p0), .val (.int p1), .val (.int nn), .val (.int v0), .val (.int v1), .val (.int v2), .val (.int v3), .val (.int v4), .val (.ref b796), .val (.ref rr), .val (.int (own_f (0 : Int32) nn v0)), .val (.int (own_f (1 : Int32) nn v1)), .val (.int (own_f (2 : Int32) nn v2)), .val (.int (own_f (3 : Int32) nn v3)), .val (.int (own_f (4 : Int32) nn v4)), .val (.int (own_t (0 : Int32) nn v0)), .val (.int (own_t (1 : Int32) nn v1)), .val (.int (own_t (2 : Int32) nn v2)), .val (.int (own_t (3 : Int32) nn v3)), .val (.int (own_fal nn v0 v1 v2 v3 v4)), .val (.int (own_p0 nn v0 v1 v2 v3 v4)), .val (.int (own_p1 nn v0 v1 v2 v3 v4)), .unset, .unset, .unset] [(.int (own_t (0 : Int32) nn v0)), (.int (own_fal nn v0 v1 v2 v3 v4))])) _
          refine XS.iadd Xc.here hx rfl (hb hby at_367) rfl ?_
          show Steps p.tables e below (Tc.setTop (mkF m 368 #[.val (.int p0), .val (.int p1), .val (.int nn), .val (.int v0), .val (.int v1), .val (.int v2), .val (.int v3), .val (.int v4), .val (.ref b796), .val (.ref rr), .val (.int (own_f (0 : Int32) nn v0)), .val (.int (own_f (1 : Int32) nn v1)), .val (.int (own_f (2 : Int32) nn v2)), .val (.int (own_f (3 : Int32) nn v3)), .val (.int (own_f (4 : Int32) nn v4)), .val (.int (own_t (0 : Int32) nn v0)), .val (.int (own_t (1 : Int32) nn v1)), .val (.int (own_t (2 : Int32) nn v2)), .val (.int (own_t (3 : Int32) nn v3)), .val (.int (own_fal nn v0 v1 v2 v3 v4)), .val (.int (own_p0 nn v0 v1 v2 v3 v4)), .val (.int (own_p1 nn v0 v1 v2 v3 v4)), .unset, .unset, .unset] [(.int ((own_fal nn v0 v1 v2 v3 v4) + (own_t (0 : Int32) nn v0)))])) _
          refine XS.iload Xc.here hx rfl (hb hby at_368) rfl ?_
          show Steps p.tables e below (Tc.setTop (mkF m 370 #[.val (.int p0), .val (.int p1), .val (.int nn), .val (.int v0), .val (.int v1), .val (.int v2), .val (.int v3), .val (.int v4), .val (.ref b796), .val (.ref rr), .val (.int (own_f (0 : Int32) nn v0)), .val (.int (own_f (1 : Int32) nn v1)), .val (.int (own_f (2 : Int32) nn v2)), .val (.int (own_f (3 : Int32) nn v3)), .val (.int (own_f (4 : Int32) nn v4)), .val (.int (own_t (0 : Int32) nn v0)), .val (.int (own_t (1 : Int32) nn v1)), .val (.int (own_t (2 : Int32) nn v2)), .val (.int (own_t (3 : Int32) nn v3)), .val (.int (own_fal nn v0 v1 v2 v3 v4)), .val (.int (own_p0 nn v0 v1 v2 v3 v4)), .val (.int (own_p1 nn v0 v1 v2 v3 v4)), .unset, .unset, .unset] [(.int (own_t (1 : Int32) nn v1)), (.int ((own_fal nn v0 v1 v2 v3 v4) + (own_t (0 : Int32) nn v0)))])) _
          refine XS.iadd Xc.here hx rfl (hb hby at_370) rfl ?_
          show Steps p.tables e below (Tc.setTop (mkF m 371 #[.val (.int p0), .val (.int p1), .val (.int nn), .val (.int v0), .val (.int v1), .val (.int v2), .val (.int v3), .val (.int v4), .val (.ref b796), .val (.ref rr), .val (.int (own_f (0 : Int32) nn v0)), .val (.int (own_f (1 : Int32) nn v1)), .val (.int (own_f (2 : Int32) nn v2)), .val (.int (own_f (3 : Int32) nn v3)), .val (.int (own_f (4 : Int32) nn v4)), .val (.int (own_t (0 : Int32) nn v0)), .val (.int (own_t (1 : Int32) nn v1)), .val (.int (own_t (2 : Int32) nn v2)), .val (.int (own_t (3 : Int32) nn v3)), .val (.int (own_fal nn v0 v1 v2 v3 v4)), .val (.int (own_p0 nn v0 v1 v2 v3 v4)), .val (.int (own_p1 nn v0 v1 v2 v3 v4)), .unset, .unset, .unset] [(.int (((own_fal nn v0 v1 v2 v3 v4) + (own_t (0 : Int32) nn v0)) + (own_t (1 : Int32) nn v1)))])) _
          refine XS.goto Xc.here hx rfl (pc0 := 371) (pc' := 379) rfl (hb hby at_371) (by decide) (by decide) ?_
          show Steps p.tables e below (Tc.setTop (mkF m 379 #[.val (.int p0), .val (.int p1), .val (.int nn), .val (.int v0), .val (.int v1), .val (.int v2), .val (.int v3), .val (.int v4), .val (.ref b796), .val (.ref rr), .val (.int (own_f (0 : Int32) nn v0)), .val (.int (own_f (1 : Int32) nn v1)), .val (.int (own_f (2 : Int32) nn v2)), .val (.int (own_f (3 : Int32) nn v3)), .val (.int (own_f (4 : Int32) nn v4)), .val (.int (own_t (0 : Int32) nn v0)), .val (.int (own_t (1 : Int32) nn v1)), .val (.int (own_t (2 : Int32) nn v2)), .val (.int (own_t (3 : Int32) nn v3)), .val (.int (own_fal nn v0 v1 v2 v3 v4)), .val (.int (own_p0 nn v0 v1 v2 v3 v4)), .val (.int (own_p1 nn v0 v1 v2 v3 v4)), .unset, .unset, .unset] [(.int (((own_fal nn v0 v1 v2 v3 v4) + (own_t (0 : Int32) nn v0)) + (own_t (1 : Int32) nn v1)))])) _
          exact kq)
        exact ⟨(((own_fal nn v0 v1 v2 v3 v4) + (own_t (0 : Int32) nn v0)) + (own_t (1 : Int32) nn v1)), (by exact (if_neg hc908).symm), G910⟩
    subst hG906
    have G911 : Go p e below A0 (Tc.setTop (mkF m 381 #[.val (.int p0), .val (.int p1), .val (.int nn), .val (.int v0), .val (.int v1), .val (.int v2), .val (.int v3), .val (.int v4), .val (.ref b796), .val (.ref rr), .val (.int (own_f (0 : Int32) nn v0)), .val (.int (own_f (1 : Int32) nn v1)), .val (.int (own_f (2 : Int32) nn v2)), .val (.int (own_f (3 : Int32) nn v3)), .val (.int (own_f (4 : Int32) nn v4)), .val (.int (own_t (0 : Int32) nn v0)), .val (.int (own_t (1 : Int32) nn v1)), .val (.int (own_t (2 : Int32) nn v2)), .val (.int (own_t (3 : Int32) nn v3)), .val (.int (own_fal nn v0 v1 v2 v3 v4)), .val (.int (own_p0 nn v0 v1 v2 v3 v4)), .val (.int (own_p1 nn v0 v1 v2 v3 v4)), .val (.int (own_p2 nn v0 v1 v2 v3 v4)), .unset, .unset] [])) := fun tq kq => G906 tq (by
      refine XS.istore Xc.here hx rfl (hb hby at_379) rfl (l' := #[.val (.int p0), .val (.int p1), .val (.int nn), .val (.int v0), .val (.int v1), .val (.int v2), .val (.int v3), .val (.int v4), .val (.ref b796), .val (.ref rr), .val (.int (own_f (0 : Int32) nn v0)), .val (.int (own_f (1 : Int32) nn v1)), .val (.int (own_f (2 : Int32) nn v2)), .val (.int (own_f (3 : Int32) nn v3)), .val (.int (own_f (4 : Int32) nn v4)), .val (.int (own_t (0 : Int32) nn v0)), .val (.int (own_t (1 : Int32) nn v1)), .val (.int (own_t (2 : Int32) nn v2)), .val (.int (own_t (3 : Int32) nn v3)), .val (.int (own_fal nn v0 v1 v2 v3 v4)), .val (.int (own_p0 nn v0 v1 v2 v3 v4)), .val (.int (own_p1 nn v0 v1 v2 v3 v4)), .val (.int (own_p2 nn v0 v1 v2 v3 v4)), .unset, .unset]) rfl ?_
      show Steps p.tables e below (Tc.setTop (mkF m 381 #[.val (.int p0), .val (.int p1), .val (.int nn), .val (.int v0), .val (.int v1), .val (.int v2), .val (.int v3), .val (.int v4), .val (.ref b796), .val (.ref rr), .val (.int (own_f (0 : Int32) nn v0)), .val (.int (own_f (1 : Int32) nn v1)), .val (.int (own_f (2 : Int32) nn v2)), .val (.int (own_f (3 : Int32) nn v3)), .val (.int (own_f (4 : Int32) nn v4)), .val (.int (own_t (0 : Int32) nn v0)), .val (.int (own_t (1 : Int32) nn v1)), .val (.int (own_t (2 : Int32) nn v2)), .val (.int (own_t (3 : Int32) nn v3)), .val (.int (own_fal nn v0 v1 v2 v3 v4)), .val (.int (own_p0 nn v0 v1 v2 v3 v4)), .val (.int (own_p1 nn v0 v1 v2 v3 v4)), .val (.int (own_p2 nn v0 v1 v2 v3 v4)), .unset, .unset] [])) _
      exact kq)
    obtain ⟨q3, hG912, G912⟩ : ∃ (q3 : Int32), (q3 = (own_p3 nn v0 v1 v2 v3 v4)) ∧ Go p e below A0 (Tc.setTop (mkF m 408 #[.val (.int p0), .val (.int p1), .val (.int nn), .val (.int v0), .val (.int v1), .val (.int v2), .val (.int v3), .val (.int v4), .val (.ref b796), .val (.ref rr), .val (.int (own_f (0 : Int32) nn v0)), .val (.int (own_f (1 : Int32) nn v1)), .val (.int (own_f (2 : Int32) nn v2)), .val (.int (own_f (3 : Int32) nn v3)), .val (.int (own_f (4 : Int32) nn v4)), .val (.int (own_t (0 : Int32) nn v0)), .val (.int (own_t (1 : Int32) nn v1)), .val (.int (own_t (2 : Int32) nn v2)), .val (.int (own_t (3 : Int32) nn v3)), .val (.int (own_fal nn v0 v1 v2 v3 v4)), .val (.int (own_p0 nn v0 v1 v2 v3 v4)), .val (.int (own_p1 nn v0 v1 v2 v3 v4)), .val (.int (own_p2 nn v0 v1 v2 v3 v4)), .unset, .unset] [(.int q3)])) := by
      have G913 : Go p e below A0 (Tc.setTop (mkF m 383 #[.val (.int p0), .val (.int p1), .val (.int nn), .val (.int v0), .val (.int v1), .val (.int v2), .val (.int v3), .val (.int v4), .val (.ref b796), .val (.ref rr), .val (.int (own_f (0 : Int32) nn v0)), .val (.int (own_f (1 : Int32) nn v1)), .val (.int (own_f (2 : Int32) nn v2)), .val (.int (own_f (3 : Int32) nn v3)), .val (.int (own_f (4 : Int32) nn v4)), .val (.int (own_t (0 : Int32) nn v0)), .val (.int (own_t (1 : Int32) nn v1)), .val (.int (own_t (2 : Int32) nn v2)), .val (.int (own_t (3 : Int32) nn v3)), .val (.int (own_fal nn v0 v1 v2 v3 v4)), .val (.int (own_p0 nn v0 v1 v2 v3 v4)), .val (.int (own_p1 nn v0 v1 v2 v3 v4)), .val (.int (own_p2 nn v0 v1 v2 v3 v4)), .unset, .unset] [(.int v3)])) := fun tq kq => G911 tq (by
        refine XS.iload Xc.here hx rfl (hb hby at_381) rfl ?_
        show Steps p.tables e below (Tc.setTop (mkF m 383 #[.val (.int p0), .val (.int p1), .val (.int nn), .val (.int v0), .val (.int v1), .val (.int v2), .val (.int v3), .val (.int v4), .val (.ref b796), .val (.ref rr), .val (.int (own_f (0 : Int32) nn v0)), .val (.int (own_f (1 : Int32) nn v1)), .val (.int (own_f (2 : Int32) nn v2)), .val (.int (own_f (3 : Int32) nn v3)), .val (.int (own_f (4 : Int32) nn v4)), .val (.int (own_t (0 : Int32) nn v0)), .val (.int (own_t (1 : Int32) nn v1)), .val (.int (own_t (2 : Int32) nn v2)), .val (.int (own_t (3 : Int32) nn v3)), .val (.int (own_fal nn v0 v1 v2 v3 v4)), .val (.int (own_p0 nn v0 v1 v2 v3 v4)), .val (.int (own_p1 nn v0 v1 v2 v3 v4)), .val (.int (own_p2 nn v0 v1 v2 v3 v4)), .unset, .unset] [(.int v3)])) _
        exact kq)
      by_cases hc914 : v3 = (0 : Int32)
      · have G915 : Go p e below A0 (Tc.setTop (mkF m 408 #[.val (.int p0), .val (.int p1), .val (.int nn), .val (.int v0), .val (.int v1), .val (.int v2), .val (.int v3), .val (.int v4), .val (.ref b796), .val (.ref rr), .val (.int (own_f (0 : Int32) nn v0)), .val (.int (own_f (1 : Int32) nn v1)), .val (.int (own_f (2 : Int32) nn v2)), .val (.int (own_f (3 : Int32) nn v3)), .val (.int (own_f (4 : Int32) nn v4)), .val (.int (own_t (0 : Int32) nn v0)), .val (.int (own_t (1 : Int32) nn v1)), .val (.int (own_t (2 : Int32) nn v2)), .val (.int (own_t (3 : Int32) nn v3)), .val (.int (own_fal nn v0 v1 v2 v3 v4)), .val (.int (own_p0 nn v0 v1 v2 v3 v4)), .val (.int (own_p1 nn v0 v1 v2 v3 v4)), .val (.int (own_p2 nn v0 v1 v2 v3 v4)), .unset, .unset] [(.int (((own_f (0 : Int32) nn v0) + (own_f (1 : Int32) nn v1)) + (own_f (2 : Int32) nn v2)))])) := fun tq kq => G913 tq (by
          refine XS.ifYes Xc.here hx rfl (pc0 := 383) (pc' := 400) rfl (hb hby at_383) rfl ((if0 _ _).trans (teq hc914).1) (by decide) (by decide) ?_
          show Steps p.tables e below (Tc.setTop (mkF m 400 #[.val (.int p0), .val (.int p1), .val (.int nn), .val (.int v0), .val (.int v1), .val (.int v2), .val (.int v3), .val (.int v4), .val (.ref b796), .val (.ref rr), .val (.int (own_f (0 : Int32) nn v0)), .val (.int (own_f (1 : Int32) nn v1)), .val (.int (own_f (2 : Int32) nn v2)), .val (.int (own_f (3 : Int32) nn v3)), .val (.int (own_f (4 : Int32) nn v4)), .val (.int (own_t (0 : Int32) nn v0)), .val (.int (own_t (1 : Int32) nn v1)), .val (.int (own_t (2 : Int32) nn v2)), .val (.int (own_t (3 : Int32) nn v3)), .val (.int (own_fal nn v0 v1 v2 v3 v4)), .val (.int (own_p0 nn v0 v1 v2 v3 v4)), .val (.int (own_p1 nn v0 v1 v2 v3 v4)), .val (.int (own_p2 nn v0 v1 v2 v3 v4)), .unset, .unset] [])) _
          refine XS.iload Xc.here hx rfl (hb hby at_400) rfl ?_
          show Steps p.tables e below (Tc.setTop (mkF m 402 #[.val (.int p0), .val (.int p1), .val (.int nn), .val (.int v0), .val (.int v1), .val (.int v2), .val (.int v3), .val (.int v4), .val (.ref b796), .val (.ref rr), .val (.int (own_f (0 : Int32) nn v0)), .val (.int (own_f (1 : Int32) nn v1)), .val (.int (own_f (2 : Int32) nn v2)), .val (.int (own_f (3 : Int32) nn v3)), .val (.int (own_f (4 : Int32) nn v4)), .val (.int (own_t (0 : Int32) nn v0)), .val (.int (own_t (1 : Int32) nn v1)), .val (.int (own_t (2 : Int32) nn v2)), .val (.int (own_t (3 : Int32) nn v3)), .val (.int (own_fal nn v0 v1 v2 v3 v4)), .val (.int (own_p0 nn v0 v1 v2 v3 v4)), .val (.int (own_p1 nn v0 v1 v2 v3 v4)), .val (.int (own_p2 nn v0 v1 v2 v3 v4)), .unset, .unset] [(.int (own_f (0 : Int32) nn v0))])) _
          refine XS.iload Xc.here hx rfl (hb hby at_402) rfl ?_
          show Steps p.tables e below (Tc.setTop (mkF m 404 #[.val (.int p0), .val (.int p1), .val (.int nn), .val (.int v0), .val (.int v1), .val (.int v2), .val (.int v3), .val (.int v4), .val (.ref b796), .val (.ref rr), .val (.int (own_f (0 : Int32) nn v0)), .val (.int (own_f (1 : Int32) nn v1)), .val (.int (own_f (2 : Int32) nn v2)), .val (.int (own_f (3 : Int32) nn v3)), .val (.int (own_f (4 : Int32) nn v4)), .val (.int (own_t (0 : Int32) nn v0)), .val (.int (own_t (1 : Int32) nn v1)), .val (.int (own_t (2 : Int32) nn v2)), .val (.int (own_t (3 : Int32) nn v3)), .val (.int (own_fal nn v0 v1 v2 v3 v4)), .val (.int (own_p0 nn v0 v1 v2 v3 v4)), .val (.int (own_p1 nn v0 v1 v2 v3 v4)), .val (.int (own_p2 nn v0 v1 v2 v3 v4)), .unset, .unset] [(.int (own_f (1 : Int32) nn v1)), (.int (own_f (0 : Int32) nn v0))])) _
          refine XS.iadd Xc.here hx rfl (hb hby at_404) rfl ?_
          show Steps p.tables e below (Tc.setTop (mkF m 405 #[.val (.int p0), .val (.int p1), .val (.int nn), .val (.int v0), .val (.int v1), .val (.int v2), .val (.int v3), .val (.int v4), .val (.ref b796), .val (.ref rr), .val (.int (own_f (0 : Int32) nn v0)), .val (.int (own_f (1 : Int32) nn v1)), .val (.int (own_f (2 : Int32) nn v2)), .val (.int (own_f (3 : Int32) nn v3)), .val (.int (own_f (4 : Int32) nn v4)), .val (.int (own_t (0 : Int32) nn v0)), .val (.int (own_t (1 : Int32) nn v1)), .val (.int (own_t (2 : Int32) nn v2)), .val (.int (own_t (3 : Int32) nn v3)), .val (.int (own_fal nn v0 v1 v2 v3 v4)), .val (.int (own_p0 nn v0 v1 v2 v3 v4)), .val (.int (own_p1 nn v0 v1 v2 v3 v4)), .val (.int (own_p2 nn v0 v1 v2 v3 v4)), .unset, .unset] [(.int ((own_f (0 : Int32) nn v0) + (own_f (1 : Int32) nn v1)))])) _
          refine XS.iload Xc.here hx rfl (hb hby at_405) rfl ?_
          show Steps p.tables e below (Tc.setTop (mkF m 407 #[.val (.int p0), .val (.int p1), .val (.int nn), .val (.int v0), .val (.int v1), .val (.int v2), .val (.int v3), .val (.int v4), .val (.ref b796), .val (.ref rr), .val (.int (own_f (0 : Int32) nn v0)), .val (.int (own_f (1 : Int32) nn v1)), .val (.int (own_f (2 : Int32) nn v2)), .val (.int (own_f (3 : Int32) nn v3)), .val (.int (own_f (4 : Int32) nn v4)), .val (.int (own_t (0 : Int32) nn v0)), .val (.int (own_t (1 : Int32) nn v1)), .val (.int (own_t (2 : Int32) nn v2)), .val (.int (own_t (3 : Int32) nn v3)), .val (.int (own_fal nn v0 v1 v2 v3 v4)), .val (.int (own_p0 nn v0 v1 v2 v3 v4)), .val (.int (own_p1 nn v0 v1 v2 v3 v4)), .val (.int (own_p2 nn v0 v1 v2 v3 v4)), .unset, .unset] [(.int (own_f (2 : Int32) nn v2)), (.int ((own_f (0 : Int32) nn v0) + (own_f (1 : Int32) nn v1)))])) _
          refine XS.iadd Xc.here hx rfl (hb hby at_407) rfl ?_
          show Steps p.tables e below (Tc.setTop (mkF m 408 #[.val (.int p0), .val (.int p1), .val (.int nn), .val (.int v0), .val (.int v1), .val (.int v2), .val (.int v3), .val (.int v4), .val (.ref b796), .val (.ref rr), .val (.int (own_f (0 : Int32) nn v0)), .val (.int (own_f (1 : Int32) nn v1)), .val (.int (own_f (2 : Int32) nn v2)), .val (.int (own_f (3 : Int32) nn v3)), .val (.int (own_f (4 : Int32) nn v4)), .val (.int (own_t (0 : Int32) nn v0)), .val (.int (own_t (1 : Int32) nn v1)), .val (.int (own_t (2 : Int32) nn v2)), .val (.int (own_t (3 : Int32) nn v3)), .val (.int (own_fal nn v0 v1 v2 v3 v4)), .val (.int (own_p0 nn v0 v1 v2 v3 v4)), .val (.int (own_p1 nn v0 v1 v2 v3 v4)), .val (.int (own_p2 nn v0 v1 v2 v3 v4)), .unset, .unset] [(.int (((own_f (0 : Int32) nn v0) + (own_f (1 : Int32) nn v1)) + (own_f (2 : Int32) nn v2)))])) _
          exact kq)
        exact ⟨(((own_f (0 : Int32) nn v0) + (own_f (1 : Int32) nn v1)) + (own_f (2 : Int32) nn v2)), (by exact (if_pos hc914).symm), G915⟩
      · have G916 : Go p e below A0 (Tc.setTop (mkF m 408 #[.val (.int p0), .val (.int p1), .val (.int nn), .val (.int v0), .val (.int v1), .val (.int v2), .val (.int v3), .val (.int v4), .val (.ref b796), .val (.ref rr), .val (.int (own_f (0 : Int32) nn v0)), .val (.int (own_f (1 : Int32) nn v1)), .val (.int (own_f (2 : Int32) nn v2)), .val (.int (own_f (3 : Int32) nn v3)), .val (.int (own_f (4 : Int32) nn v4)), .val (.int (own_t (0 : Int32) nn v0)), .val (.int (own_t (1 : Int32) nn v1)), .val (.int (own_t (2 : Int32) nn v2)), .val (.int (own_t (3 : Int32) nn v3)), .val (.int (own_fal nn v0 v1 v2 v3 v4)), .val (.int (own_p0 nn v0 v1 v2 v3 v4)), .val (.int (own_p1 nn v0 v1 v2 v3 v4)), .val (.int (own_p2 nn v0 v1 v2 v3 v4)), .unset, .unset] [(.int ((((own_fal nn v0 v1 v2 v3 v4) + (own_t (0 : Int32) nn v0)) + (own_t (1 : Int32) nn v1)) + (own_t (2 : Int32) nn v2)))])) := fun tq kq => G913 tq (by
          refine XS.ifNo Xc.here hx rfl (hb hby at_383) rfl ((if0 _ _).trans (feq hc914).1) ?_
          show Steps p.tables e below (Tc.setTop (mkF m 386 #[.val (.int p0), .val (.int p1), .val (.int nn), .val (.int v0), .val (.int v1), .val (.int v2), .val (.int v3), .val (.int v4), .val (.ref b796), .val (.ref rr), .val (.int (own_f (0 : Int32) nn v0)), .val (.int (own_f (1 : Int32) nn v1)), .val (.int (own_f (2 : Int32) nn v2)), .val (.int (own_f (3 : Int32) nn v3)), .val (.int (own_f (4 : Int32) nn v4)), .val (.int (own_t (0 : Int32) nn v0)), .val (.int (own_t (1 : Int32) nn v1)), .val (.int (own_t (2 : Int32) nn v2)), .val (.int (own_t (3 : Int32) nn v3)), .val (.int (own_fal nn v0 v1 v2 v3 v4)), .val (.int (own_p0 nn v0 v1 v2 v3 v4)), .val (.int (own_p1 nn v0 v1 v2 v3 v4)), .val (.int (own_p2 nn v0 v1 v2 v3 v4)), .unset, .unset] [])) _
          refine XS.iload Xc.here hx rfl (hb hby at_386) rfl ?_
          show Steps p.tables e below (Tc.setTop (mkF m 388 #[.val (.int p0), .val (.int p1), .val (.int nn), .val (.int v0), .val (.int v1), .val (.int v2), .val (.int v3), .val (.int v4), .val (.ref b796), .val (.ref rr), .val (.int (own_f (0 : Int32) nn v0)), .val (.int (own_f (1 : Int32) nn v1)), .val (.int (own_f (2 : Int32) nn v2)), .val (.int (own_f (3 : Int32) nn v3)), .val (.int (own_f (4 : Int32) nn v4)), .val (.int (own_t (0 : Int32) nn v0)), .val (.int (own_t (1 : Int32) nn v1)), .val (.int (own_t (2 : Int32) nn v2)), .val (.int (own_t (3 : Int32) nn v3)), .val (.int (own_fal nn v0 v1 v2 v3 v4)), .val (.int (own_p0 nn v0 v1 v2 v3 v4)), .val (.int (own_p1 nn v0 v1 v2 v3 v4)), .val (.int (own_p2 nn v0 v1 v2 v3 v4)), .unset, .unset] [(.int (own_fal nn v0 v1 v2 v3 v4))])) _
          refine XS.iload Xc.here hx rfl (hb hby at_388) rfl ?_
          show Steps p.tables e below (Tc.setTop (mkF m 390 #[.val (.int p0), .val (.int p1), .val (.int nn), .val (.int v0), .val (.int v1), .val (.int v2), .val (.int v3), .val (.int v4), .val (.ref b796), .val (.ref rr), .val (.int (own_f (0 : Int32) nn v0)), .val (.int (own_f (1 : Int32) nn v1)), .val (.int (own_f (2 : Int32) nn v2)), .val (.int (own_f (3 : Int32) nn v3)), .val (.int (own_f (4 : Int32) nn v4)), .val (.int (own_t (0 : Int32) nn v0)), .val (.int (own_t (1 : Int32) nn v1)), .val (.int (own_t (2 : Int32) nn v2)), .val (.int (own_t (3 : Int32) nn v3)), .val (.int (own_fal nn v0 v1 v2 v3 v4)), .val (.int (own_p0 nn v0 v1 v2 v3 v4)), .val (.int (own_p1 nn v0 v1 v2 v3 v4)), .val (.int (own_p2 nn v0 v1 v2 v3 v4)), .unset, .unset] [(.int (own_t (0 : Int32) nn v0)), (.int (own_fal nn v0 v1 v2 v3 v4))])) _
          refine XS.iadd Xc.here hx rfl (hb hby at_390) rfl ?_
          show Steps p.tables e below (Tc.setTop (mkF m 391 #[.val (.int p0), .val (.int p1), .val (.int nn), .val (.int v0), .val (.int v1), .val (.int v2), .val (.int v3), .val (.int v4), .val (.ref b796), .val (.ref rr), .val (.int (own_f (0 : Int32) nn v0)), .val (.int (own_f (1 : Int32) nn v1)), .val (.int (own_f (2 : Int32) nn v2)), .val (.int (own_f (3 : Int32) nn v3)), .val (.int (own_f (4 : Int32) nn v4)), .val (.int (own_t (0 : Int32) nn v0)), .val (.int (own_t (1 : Int32) nn v1)), .val (.int (own_t (2 : Int32) nn v2)), .val (.int (own_t (3 : Int32) nn v3)), .val (.int (own_fal nn v0 v1 v2 v3 v4)), .val (.int (own_p0 nn v0 v1 v2 v3 v4)), .val (.int (own_p1 nn v0 v1 v2 v3 v4)), .val (.int (own_p2 nn v0 v1 v2 v3 v4)), .unset, .unset] [(.int ((own_fal nn v0 v1 v2 v3 v4) + (own_t (0 : Int32) nn v0)))])) _
          refine XS.iload Xc.here hx rfl (hb hby at_391) rfl ?_
          show Steps p.tables e below (Tc.setTop (mkF m 393 #[.val (.int p0), .val (.int p1), .val (.int nn), .val (.int v0), .val (.int v1), .val (.int v2), .val (.int v3), .val (.int v4), .val (.ref b796), .val (.ref rr), .val (.int (own_f (0 : Int32) nn v0)), .val (.int (own_f (1 : Int32) nn v1)), .val (.int (own_f (2 : Int32) nn v2)), .val (.int (own_f (3 : Int32) nn v3)), .val (.int (own_f (4 : Int32) nn v4)), .val (.int (own_t (0 : Int32) nn v0)), .val (.int (own_t (1 : Int32) nn v1)), .val (.int (own_t (2 : Int32) nn v2)), .val (.int (own_t (3 : Int32) nn v3)), .val (.int (own_fal nn v0 v1 v2 v3 v4)), .val (.int (own_p0 nn v0 v1 v2 v3 v4)), .val (.int (own_p1 nn v0 v1 v2 v3 v4)), .val (.int (own_p2 nn v0 v1 v2 v3 v4)), .unset, .unset] [(.int (own_t (1 : Int32) nn v1)), (.int ((own_fal nn v0 v1 v2 v3 v4) + (own_t (0 : Int32) nn v0)))])) _
          refine XS.iadd Xc.here hx rfl (hb hby at_393) rfl ?_
          show Steps p.tables e below (Tc.setTop (mkF m 394 #[.val (.int p0), .val (.int p1), .val (.int nn), .val (.int v0), .val (.int v1), .val (.int v2), .val (.int v3), .val (.int v4), .val (.ref b796), .val (.ref rr), .val (.int (own_f (0 : Int32) nn v0)), .val (.int (own_f (1 : Int32) nn v1)), .val (.int (own_f (2 : Int32) nn v2)), .val (.int (own_f (3 : Int32) nn v3)), .val (.int (own_f (4 : Int32) nn v4)), .val (.int (own_t (0 : Int32) nn v0)), .val (.int (own_t (1 : Int32) nn v1)), .val (.int (own_t (2 : Int32) nn v2)), .val (.int (own_t (3 : Int32) nn v3)), .val (.int (own_fal nn v0 v1 v2 v3 v4)), .val (.int (own_p0 nn v0 v1 v2 v3 v4)), .val (.int (own_p1 nn v0 v1 v2 v3 v4)), .val (.int (own_p2 nn v0 v1 v2 v3 v4)), .unset, .unset] [(.int (((own_fal nn v0 v1 v2 v3 v4) + (own_t (0 : Int32) nn v0)) + (own_t (1 : Int32) nn v1)))])) _
          refine XS.iload Xc.here hx rfl (hb hby at_394) rfl ?_
          show Steps p.tables e below (Tc.setTop (mkF m 396 #[.val (.int p0), .val (.int p1), .val (.int nn), .val (.int v0), .val (.int v1), .val (.int v2), .val (.int v3), .val (.int v4), .val (.ref b796), .val (.ref rr), .val (.int (own_f (0 : Int32) nn v0)), .val (.int (own_f (1 : Int32) nn v1)), .val (.int (own_f (2 : Int32) nn v2)), .val (.int (own_f (3 : Int32) nn v3)), .val (.int (own_f (4 : Int32) nn v4)), .val (.int (own_t (0 : Int32) nn v0)), .val (.int (own_t (1 : Int32) nn v1)), .val (.int (own_t (2 : Int32) nn v2)), .val (.int (own_t (3 : Int32) nn v3)), .val (.int (own_fal nn v0 v1 v2 v3 v4)), .val (.int (own_p0 nn v0 v1 v2 v3 v4)), .val (.int (own_p1 nn v0 v1 v2 v3 v4)), .val (.int (own_p2 nn v0 v1 v2 v3 v4)), .unset, .unset] [(.int (own_t (2 : Int32) nn v2)), (.int (((own_fal nn v0 v1 v2 v3 v4) + (own_t (0 : Int32) nn v0)) + (own_t (1 : Int32) nn v1)))])) _
          refine XS.iadd Xc.here hx rfl (hb hby at_396) rfl ?_
          show Steps p.tables e below (Tc.setTop (mkF m 397 #[.val (.int p0), .val (.int p1), .val (.int nn), .val (.int v0), .val (.int v1), .val (.int v2), .val (.int v3), .val (.int v4), .val (.ref b796), .val (.ref rr), .val (.int (own_f (0 : Int32) nn v0)), .val (.int (own_f (1 : Int32) nn v1)), .val (.int (own_f (2 : Int32) nn v2)), .val (.int (own_f (3 : Int32) nn v3)), .val (.int (own_f (4 : Int32) nn v4)), .val (.int (own_t (0 : Int32) nn v0)), .val (.int (own_t (1 : Int32) nn v1)), .val (.int (own_t (2 : Int32) nn v2)), .val (.int (own_t (3 : Int32) nn v3)), .val (.int (own_fal nn v0 v1 v2 v3 v4)), .val (.int (own_p0 nn v0 v1 v2 v3 v4)), .val (.int (own_p1 nn v0 v1 v2 v3 v4)), .val (.int (own_p2 nn v0 v1 v2 v3 v4)), .unset, .unset] [(.int ((((own_fal nn v0 v1 v2 v3 v4) + (own_t (0 : Int32) nn v0)) + (own_t (1 : Int32) nn v1)) + (own_t (2 : Int32) nn v2)))])) _
          refine XS.goto Xc.here hx rfl (pc0 := 397) (pc' := 408) rfl (hb hby at_397) (by decide) (by decide) ?_
          show Steps p.tables e below (Tc.setTop (mkF m 408 #[.val (.int p0), .val (.int p1), .val (.int nn), .val (.int v0), .val (.int v1), .val (.int v2), .val (.int v3), .val (.int v4), .val (.ref b796), .val (.ref rr), .val (.int (own_f (0 : Int32) nn v0)), .val (.int (own_f (1 : Int32) nn v1)), .val (.int (own_f (2 : Int32) nn v2)), .val (.int (own_f (3 : Int32) nn v3)), .val (.int (own_f (4 : Int32) nn v4)), .val (.int (own_t (0 : Int32) nn v0)), .val (.int (own_t (1 : Int32) nn v1)), .val (.int (own_t (2 : Int32) nn v2)), .val (.int (own_t (3 : Int32) nn v3)), .val (.int (own_fal nn v0 v1 v2 v3 v4)), .val (.int (own_p0 nn v0 v1 v2 v3 v4)), .val (.int (own_p1 nn v0 v1 v2 v3 v4)), .val (.int (own_p2 nn v0 v1 v2 v3 v4)), .unset, .unset] [(.int ((((own_fal nn v0 v1 v2 v3 v4) + (own_t (0 : Int32) nn v0)) + (own_t (1 : Int32) nn v1)) + (own_t (2 : Int32) nn v2)))])) _
          exact kq)
        exact ⟨((((own_fal nn v0 v1 v2 v3 v4) + (own_t (0 : Int32) nn v0)) + (own_t (1 : Int32) nn v1)) + (own_t (2 : Int32) nn v2)), (by exact (if_neg hc914).symm), G916⟩
    subst hG912
    have G917 : Go p e below A0 (Tc.setTop (mkF m 410 #[.val (.int p0), .val (.int p1), .val (.int nn), .val (.int v0), .val (.int v1), .val (.int v2), .val (.int v3), .val (.int v4), .val (.ref b796), .val (.ref rr), .val (.int (own_f (0 : Int32) nn v0)), .val (.int (own_f (1 : Int32) nn v1)), .val (.int (own_f (2 : Int32) nn v2)), .val (.int (own_f (3 : Int32) nn v3)), .val (.int (own_f (4 : Int32) nn v4)), .val (.int (own_t (0 : Int32) nn v0)), .val (.int (own_t (1 : Int32) nn v1)), .val (.int (own_t (2 : Int32) nn v2)), .val (.int (own_t (3 : Int32) nn v3)), .val (.int (own_fal nn v0 v1 v2 v3 v4)), .val (.int (own_p0 nn v0 v1 v2 v3 v4)), .val (.int (own_p1 nn v0 v1 v2 v3 v4)), .val (.int (own_p2 nn v0 v1 v2 v3 v4)), .val (.int (own_p3 nn v0 v1 v2 v3 v4)), .unset] [])) := fun tq kq => G912 tq (by
      refine XS.istore Xc.here hx rfl (hb hby at_408) rfl (l' := #[.val (.int p0), .val (.int p1), .val (.int nn), .val (.int v0), .val (.int v1), .val (.int v2), .val (.int v3), .val (.int v4), .val (.ref b796), .val (.ref rr), .val (.int (own_f (0 : Int32) nn v0)), .val (.int (own_f (1 : Int32) nn v1)), .val (.int (own_f (2 : Int32) nn v2)), .val (.int (own_f (3 : Int32) nn v3)), .val (.int (own_f (4 : Int32) nn v4)), .val (.int (own_t (0 : Int32) nn v0)), .val (.int (own_t (1 : Int32) nn v1)), .val (.int (own_t (2 : Int32) nn v2)), .val (.int (own_t (3 : Int32) nn v3)), .val (.int (own_fal nn v0 v1 v2 v3 v4)), .val (.int (own_p0 nn v0 v1 v2 v3 v4)), .val (.int (own_p1 nn v0 v1 v2 v3 v4)), .val (.int (own_p2 nn v0 v1 v2 v3 v4)), .val (.int (own_p3 nn v0 v1 v2 v3 v4)), .unset]) rfl ?_
      show Steps p.tables e below (Tc.setTop (mkF m 410 #[.val (.int p0), .val (.int p1), .val (.int nn), .val (.int v0), .val (.int v1), .val (.int v2), .val (.int v3), .val (.int v4), .val (.ref b796), .val (.ref rr), .val (.int (own_f (0 : Int32) nn v0)), .val (.int (own_f (1 : Int32) nn v1)), .val (.int (own_f (2 : Int32) nn v2)), .val (.int (own_f (3 : Int32) nn v3)), .val (.int (own_f (4 : Int32) nn v4)), .val (.int (own_t (0 : Int32) nn v0)), .val (.int (own_t (1 : Int32) nn v1)), .val (.int (own_t (2 : Int32) nn v2)), .val (.int (own_t (3 : Int32) nn v3)), .val (.int (own_fal nn v0 v1 v2 v3 v4)), .val (.int (own_p0 nn v0 v1 v2 v3 v4)), .val (.int (own_p1 nn v0 v1 v2 v3 v4)), .val (.int (own_p2 nn v0 v1 v2 v3 v4)), .val (.int (own_p3 nn v0 v1 v2 v3 v4)), .unset] [])) _
      exact kq)
    obtain ⟨q4, hG918, G918⟩ : ∃ (q4 : Int32), (q4 = (own_p4 nn v0 v1 v2 v3 v4)) ∧ Go p e below A0 (Tc.setTop (mkF m 443 #[.val (.int p0), .val (.int p1), .val (.int nn), .val (.int v0), .val (.int v1), .val (.int v2), .val (.int v3), .val (.int v4), .val (.ref b796), .val (.ref rr), .val (.int (own_f (0 : Int32) nn v0)), .val (.int (own_f (1 : Int32) nn v1)), .val (.int (own_f (2 : Int32) nn v2)), .val (.int (own_f (3 : Int32) nn v3)), .val (.int (own_f (4 : Int32) nn v4)), .val (.int (own_t (0 : Int32) nn v0)), .val (.int (own_t (1 : Int32) nn v1)), .val (.int (own_t (2 : Int32) nn v2)), .val (.int (own_t (3 : Int32) nn v3)), .val (.int (own_fal nn v0 v1 v2 v3 v4)), .val (.int (own_p0 nn v0 v1 v2 v3 v4)), .val (.int (own_p1 nn v0 v1 v2 v3 v4)), .val (.int (own_p2 nn v0 v1 v2 v3 v4)), .val (.int (own_p3 nn v0 v1 v2 v3 v4)), .unset] [(.int q4)])) := by
      have G919 : Go p e below A0 (Tc.setTop (mkF m 412 #[.val (.int p0), .val (.int p1), .val (.int nn), .val (.int v0), .val (.int v1), .val (.int v2), .val (.int v3), .val (.int v4), .val (.ref b796), .val (.ref rr), .val (.int (own_f (0 : Int32) nn v0)), .val (.int (own_f (1 : Int32) nn v1)), .val (.int (own_f (2 : Int32) nn v2)), .val (.int (own_f (3 : Int32) nn v3)), .val (.int (own_f (4 : Int32) nn v4)), .val (.int (own_t (0 : Int32) nn v0)), .val (.int (own_t (1 : Int32) nn v1)), .val (.int (own_t (2 : Int32) nn v2)), .val (.int (own_t (3 : Int32) nn v3)), .val (.int (own_fal nn v0 v1 v2 v3 v4)), .val (.int (own_p0 nn v0 v1 v2 v3 v4)), .val (.int (own_p1 nn v0 v1 v2 v3 v4)), .val (.int (own_p2 nn v0 v1 v2 v3 v4)), .val (.int (own_p3 nn v0 v1 v2 v3 v4)), .unset] [(.int v4)])) := fun tq kq => G917 tq (by
        refine XS.iload Xc.here hx rfl (hb hby at_410) rfl ?_
        show Steps p.tables e below (Tc.setTop (mkF m 412 #[.val (.int p0), .val (.int p1), .val (.int nn), .val (.int v0), .val (.int v1), .val (.int v2), .val (.int v3), .val (.int v4), .val (.ref b796), .val (.ref rr), .val (.int (own_f (0 : Int32) nn v0)), .val (.int (own_f (1 : Int32) nn v1)), .val (.int (own_f (2 : Int32) nn v2)), .val (.int (own_f (3 : Int32) nn v3)), .val (.int (own_f (4 : Int32) nn v4)), .val (.int (own_t (0 : Int32) nn v0)), .val (.int (own_t (1 : Int32) nn v1)), .val (.int (own_t (2 : Int32) nn v2)), .val (.int (own_t (3 : Int32) nn v3)), .val (.int (own_fal nn v0 v1 v2 v3 v4)), .val (.int (own_p0 nn v0 v1 v2 v3 v4)), .val (.int (own_p1 nn v0 v1 v2 v3 v4)), .val (.int (own_p2 nn v0 v1 v2 v3 v4)), .val (.int (own_p3 nn v0 v1 v2 v3 v4)), .unset] [(.int v4)])) _
        exact kq)
      by_cases hc920 : v4 = (0 : Int32)
      · have G921 : Go p e below A0 (Tc.setTop (mkF m 443 #[.val (.int p0), .val (.int p1), .val (.int nn), .val (.int v0), .val (.int v1), .val (.int v2), .val (.int v3), .val (.int v4), .val (.ref b796), .val (.ref rr), .val (.int (own_f (0 : Int32) nn v0)), .val (.int (own_f (1 : Int32) nn v1)), .val (.int (own_f (2 : Int32) nn v2)), .val (.int (own_f (3 : Int32) nn v3)), .val (.int (own_f (4 : Int32) nn v4)), .val (.int (own_t (0 : Int32) nn v0)), .val (.int (own_t (1 : Int32) nn v1)), .val (.int (own_t (2 : Int32) nn v2)), .val (.int (own_t (3 : Int32) nn v3)), .val (.int (own_fal nn v0 v1 v2 v3 v4)), .val (.int (own_p0 nn v0 v1 v2 v3 v4)), .val (.int (own_p1 nn v0 v1 v2 v3 v4)), .val (.int (own_p2 nn v0 v1 v2 v3 v4)), .val (.int (own_p3 nn v0 v1 v2 v3 v4)), .unset] [(.int ((((own_f (0 : Int32) nn v0) + (own_f (1 : Int32) nn v1)) + (own_f (2 : Int32) nn v2)) + (own_f (3 : Int32) nn v3)))])) := fun tq kq => G919 tq (by
          refine XS.ifYes Xc.here hx rfl (pc0 := 412) (pc' := 432) rfl (hb hby at_412) rfl ((if0 _ _).trans (teq hc920).1) (by decide) (by decide) ?_
          show Steps p.tables e below (Tc.setTop (mkF m 432 #[.val (.int p0), .val (.int p1), .val (.int nn), .val (.int v0), .val (.int v1), .val (.int v2), .val (.int v3), .val (.int v4), .val (.ref b796), .val (.ref rr), .val (.int (own_f (0 : Int32) nn v0)), .val (.int (own_f (1 : Int32) nn v1)), .val (.int (own_f (2 : Int32) nn v2)), .val (.int (own_f (3 : Int32) nn v3)), .val (.int (own_f (4 : Int32) nn v4)), .val (.int (own_t (0 : Int32) nn v0)), .val (.int (own_t (1 : Int32) nn v1)), .val (.int (own_t (2 : Int32) nn v2)), .val (.int (own_t (3 : Int32) nn v3)), .val (.int (own_fal nn v0 v1 v2 v3 v4)), .val (.int (own_p0 nn v0 v1 v2 v3 v4)), .val (.int (own_p1 nn v0 v1 v2 v3 v4)), .val (.int (own_p2 nn v0 v1 v2 v3 v4)), .val (.int (own_p3 nn v0 v1 v2 v3 v4)), .unset] [])) _
          refine XS.iload Xc.here hx rfl (hb hby at_432) rfl ?_
          show Steps p.tables e below (Tc.setTop (mkF m 434 #[.val (.int p0), .val (.int p1), .val (.int nn), .val (.int v0), .val (.int v1), .val (.int v2), .val (.int v3), .val (.int v4), .val (.ref b796), .val (.ref rr), .val (.int (own_f (0 : Int32) nn v0)), .val (.int (own_f (1 : Int32) nn v1)), .val (.int (own_f (2 : Int32) nn v2)), .val (.int (own_f (3 : Int32) nn v3)), .val (.int (own_f (4 : Int32) nn v4)), .val (.int (own_t (0 : Int32) nn v0)), .val (.int (own_t (1 : Int32) nn v1)), .val (.int (own_t (2 : Int32) nn v2)), .val (.int (own_t (3 : Int32) nn v3)), .val (.int (own_fal nn v0 v1 v2 v3 v4)), .val (.int (own_p0 nn v0 v1 v2 v3 v4)), .val (.int (own_p1 nn v0 v1 v2 v3 v4)), .val (.int (own_p2 nn v0 v1 v2 v3 v4)), .val (.int (own_p3 nn v0 v1 v2 v3 v4)), .unset] [(.int (own_f (0 : Int32) nn v0))])) _
          refine XS.iload Xc.here hx rfl (hb hby at_434) rfl ?_
          show Steps p.tables e below (Tc.setTop (mkF m 436 #[.val (.int p0), .val (.int p1), .val (.int nn), .val (.int v0), .val (.int v1), .val (.int v2), .val (.int v3), .val (.int v4), .val (.ref b796), .val (.ref rr), .val (.int (own_f (0 : Int32) nn v0)), .val (.int (own_f (1 : Int32) nn v1)), .val (.int (own_f (2 : Int32) nn v2)), .val (.int (own_f (3 : Int32) nn v3)), .val (.int (own_f (4 : Int32) nn v4)), .val (.int (own_t (0 : Int32) nn v0)), .val (.int (own_t (1 : Int32) nn v1)), .val (.int (own_t (2 : Int32) nn v2)), .val (.int (own_t (3 : Int32) nn v3)), .val (.int (own_fal nn v0 v1 v2 v3 v4)), .val (.int (own_p0 nn v0 v1 v2 v3 v4)), .val (.int (own_p1 nn v0 v1 v2 v3 v4)), .val (.int (own_p2 nn v0 v1 v2 v3 v4)), .val (.int (own_p3 nn v0 v1 v2 v3 v4)), .unset] [(.int (own_f (1 : Int32) nn v1)), (.int (own_f (0 : Int32) nn v0))])) _
          refine XS.iadd Xc.here hx rfl (hb hby at_436) rfl ?_
          show Steps p.tables e below (Tc.setTop (mkF m 437 #[.val (.int p0), .val (.int p1), .val (.int nn), .val (.int v0), .val (.int v1), .val (.int v2), .val (.int v3), .val (.int v4), .val (.ref b796), .val (.ref rr), .val (.int (own_f (0 : Int32) nn v0)), .val (.int (own_f (1 : Int32) nn v1)), .val (.int (own_f (2 : Int32) nn v2)), .val (.int (own_f (3 : Int32) nn v3)), .val (.int (own_f (4 : Int32) nn v4)), .val (.int (own_t (0 : Int32) nn v0)), .val (.int (own_t (1 : Int32) nn v1)), .val (.int (own_t (2 : Int32) nn v2)), .val (.int (own_t (3 : Int32) nn v3)), .val (.int (own_fal nn v0 v1 v2 v3 v4)), .val (.int (own_p0 nn v0 v1 v2 v3 v4)), .val (.int (own_p1 nn v0 v1 v2 v3 v4)), .val (.int (own_p2 nn v0 v1 v2 v3 v4)), .val (.int (own_p3 nn v0 v1 v2 v3 v4)), .unset] [(.int ((own_f (0 : Int32) nn v0) + (own_f (1 : Int32) nn v1)))])) _
          refine XS.iload Xc.here hx rfl (hb hby at_437) rfl ?_
          show Steps p.tables e below (Tc.setTop (mkF m 439 #[.val (.int p0), .val (.int p1), .val (.int nn), .val (.int v0), .val (.int v1), .val (.int v2), .val (.int v3), .val (.int v4), .val (.ref b796), .val (.ref rr), .val (.int (own_f (0 : Int32) nn v0)), .val (.int (own_f (1 : Int32) nn v1)), .val (.int (own_f (2 : Int32) nn v2)), .val (.int (own_f (3 : Int32) nn v3)), .val (.int (own_f (4 : Int32) nn v4)), .val (.int (own_t (0 : Int32) nn v0)), .val (.int (own_t (1 : Int32) nn v1)), .val (.int (own_t (2 : Int32) nn v2)), .val (.int (own_t (3 : Int32) nn v3)), .val (.int (own_fal nn v0 v1 v2 v3 v4)), .val (.int (own_p0 nn v0 v1 v2 v3 v4)), .val (.int (own_p1 nn v0 v1 v2 v3 v4)), .val (.int (own_p2 nn v0 v1 v2 v3 v4)), .val (.int (own_p3 nn v0 v1 v2 v3 v4)), .unset] [(.int (own_f (2 : Int32) nn v2)), (.int ((own_f (0 : Int32) nn v0) + (own_f (1 : Int32) nn v1)))])) _
          refine XS.iadd Xc.here hx rfl (hb hby at_439) rfl ?_
          show Steps p.tables e below (Tc.setTop (mkF m 440 #[.val (.int p0), .val (.int p1), .val (.int nn), .val (.int v0), .val (.int v1), .val (.int v2), .val (.int v3), .val (.int v4), .val (.ref b796), .val (.ref rr), .val (.int (own_f (0 : Int32) nn v0)), .val (.int (own_f (1 : Int32) nn v1)), .val (.int (own_f (2 : Int32) nn v2)), .val (.int (own_f (3 : Int32) nn v3)), .val (.int (own_f (4 : Int32) nn v4)), .val (.int (own_t (0 : Int32) nn v0)), .val (.int (own_t (1 : Int32) nn v1)), .val (.int (own_t (2 : Int32) nn v2)), .val (.int (own_t (3 : Int32) nn v3)), .val (.int (own_fal nn v0 v1 v2 v3 v4)), .val (.int (own_p0 nn v0 v1 v2 v3 v4)), .val (.int (own_p1 nn v0 v1 v2 v3 v4)), .val (.int (own_p2 nn v0 v1 v2 v3 v4)), .val (.int (own_p3 nn v0 v1 v2 v3 v4)), .unset] [(.int (((own_f (0 : Int32) nn v0) + (own_f (1 : Int32) nn v1)) + (own_f (2 : Int32) nn v2)))])) _
          refine XS.iload Xc.here hx rfl (hb hby at_440) rfl ?_
          show Steps p.tables e below (Tc.setTop (mkF m 442 #[.val (.int p0), .val (.int p1), .val (.int nn), .val (.int v0), .val (.int v1), .val (.int v2), .val (.int v3), .val (.int v4), .val (.ref b796), .val (.ref rr), .val (.int (own_f (0 : Int32) nn v0)), .val (.int (own_f (1 : Int32) nn v1)), .val (.int (own_f (2 : Int32) nn v2)), .val (.int (own_f (3 : Int32) nn v3)), .val (.int (own_f (4 : Int32) nn v4)), .val (.int (own_t (0 : Int32) nn v0)), .val (.int (own_t (1 : Int32) nn v1)), .val (.int (own_t (2 : Int32) nn v2)), .val (.int (own_t (3 : Int32) nn v3)), .val (.int (own_fal nn v0 v1 v2 v3 v4)), .val (.int (own_p0 nn v0 v1 v2 v3 v4)), .val (.int (own_p1 nn v0 v1 v2 v3 v4)), .val (.int (own_p2 nn v0 v1 v2 v3 v4)), .val (.int (own_p3 nn v0 v1 v2 v3 v4)), .unset] [(.int (own_f (3 : Int32) nn v3)), (.int (((own_f (0 : Int32) nn v0) + (own_f (1 : Int32) nn v1)) + (own_f (2 : Int32) nn v2)))])) _
          refine XS.iadd Xc.here hx rfl (hb hby at_442) rfl ?_
          show Steps p.tables e below (Tc.setTop (mkF m 443 #[.val (.int p0), .val (.int p1), .val (.int nn), .val (.int v0), .val (.int v1), .val (.int v2), .val (.int v3), .val (.int v4), .val (.ref b796), .val (.ref rr), .val (.int (own_f (0 : Int32) nn v0)), .val (.int (own_f (1 : Int32) nn v1)), .val (.int (own_f (2 : Int32) nn v2)), .val (.int (own_f (3 : Int32) nn v3)), .val (.int (own_f (4 : Int32) nn v4)), .val (.int (own_t (0 : Int32) nn v0)), .val (.int (own_t (1 : Int32) nn v1)), .val (.int (own_t (2 : Int32) nn v2)), .val (.int (own_t (3 : Int32) nn v3)), .val (.int (own_fal nn v0 v1 v2 v3 v4)), .val (.int (own_p0 nn v0 v1 v2 v3 v4)), .val (.int (own_p1 nn v0 v1 v2 v3 v4)), .val (.int (own_p2 nn v0 v1 v2 v3 v4)), .val (.int (own_p3 nn v0 v1 v2 v3 v4)), .unset] [(.int ((((own_f (0 : Int32) nn v0) + (own_f (1 : Int32) nn v1)) + (own_f (2 : Int32) nn v2)) + (own_f (3 : Int32) nn v3)))])) _
          exact kq)
        exact ⟨((((own_f (0 : Int32) nn v0) + (own_f (1 : Int32) nn v1)) + (own_f (2 : Int32) nn v2)) + (own_f (3 : Int32) nn v3)), (by exact (if_pos hc920).symm), G921⟩
      · have G922 : Go p e below A0 (Tc.setTop (mkF m 443 #[.val (.int p0), .val (.int p1), .val (.int nn), .val (.int v0), .val (.int v1), .val (.int v2), .val (.int v3), .val (.int v4), .val (.ref b796), .val (.ref rr), .val (.int (own_f (0 : Int32) nn v0)), .val (.int (own_f (1 : Int32) nn v1)), .val (.int (own_f (2 : Int32) nn v2)), .val (.int (own_f (3 : Int32) nn v3)), .val (.int (own_f (4 : Int32) nn v4)), .val (.int (own_t (0 : Int32) nn v0)), .val (.int (own_t (1 : Int32) nn v1)), .val (.int (own_t (2 : Int32) nn v2)), .val (.int (own_t (3 : Int32) nn v3)), .val (.int (own_fal nn v0 v1 v2 v3 v4)), .val (.int (own_p0 nn v0 v1 v2 v3 v4)), .val (.int (own_p1 nn v0 v1 v2 v3 v4)), .val (.int (own_p2 nn v0 v1 v2 v3 v4)), .val (.int (own_p3 nn v0 v1 v2 v3 v4)), .unset] [(.int (((((own_fal nn v0 v1 v2 v3 v4) + (own_t (0 : Int32) nn v0)) + (own_t (1 : Int32) nn v1)) + (own_t (2 : Int32) nn v2)) + (own_t (3 : Int32) nn v3)))])) := fun tq kq => G919 tq (by
          refine XS.ifNo Xc.here hx rfl (hb hby at_412) rfl ((if0 _ _).trans (feq hc920).1) ?_
          show Steps p.tables e below (Tc.setTop (mkF m 415 #[.val (.int p0), .val (.int p1), .val (.int nn), .val (.int v0), .val (.int v1), .val (.int v2), .val (.int v3), .val (.int v4), .val (.ref b796), .val (.ref rr), .val (.int (own_f (0 : Int32) nn v0)), .val (.int (own_f (1 : Int32) nn v1)), .val (.int (own_f (2 : Int32) nn v2)), .val (.int (own_f (3 : Int32) nn v3)), .val (.int (own_f (4 : Int32) nn v4)), .val (.int (own_t (0 : Int32) nn v0)), .val (.int (own_t (1 : Int32) nn v1)), .val (.int (own_t (2 : Int32) nn v2)), .val (.int (own_t (3 : Int32) nn v3)), .val (.int (own_fal nn v0 v1 v2 v3 v4)), .val (.int (own_p0 nn v0 v1 v2 v3 v4)), .val (.int (own_p1 nn v0 v1 v2 v3 v4)), .val (.int (own_p2 nn v0 v1 v2 v3 v4)), .val (.int (own_p3 nn v0 v1 v2 v3 v4)), .unset] [])) _
          refine XS.iload Xc.here hx rfl (hb hby at_415) rfl ?_
          show Steps p.tables e below (Tc.setTop (mkF m 417 #[.val (.int p0), .val (.int p1), .val (.int nn), .val (.int v0), .val (.int v1), .val (.int v2), .val (.int v3), .val (.int v4), .val (.ref b796), .val (.ref rr), .val (.int (own_f (0 : Int32) nn v0)), .val (.int (own_f (1 : Int32) nn v1)), .val (.int (own_f (2 : Int32) nn v2)), .val (.int (own_f (3 : Int32) nn v3)), .val (.int (own_f (4 : Int32) nn v4)), .val (.int (own_t (0 : Int32) nn v0)), .val (.int (own_t (1 : Int32) nn v1)), .val (.int (own_t (2 : Int32) nn v2)), .val (.int (own_t (3 : Int32) nn v3)), .val (.int (own_fal nn v0 v1 v2 v3 v4)), .val (.int (own_p0 nn v0 v1 v2 v3 v4)), .val (.int (own_p1 nn v0 v1 v2 v3 v4)), .val (.int (own_p2 nn v0 v1 v2 v3 v4)), .val (.int (own_p3 nn v0 v1 v2 v3 v4)), .unset] [(.int (own_fal nn v0 v1 v2 v3 v4))])) _
          refine XS.iload Xc.here hx rfl (hb hby at_417) rfl ?_
          show Steps p.tables e below (Tc.setTop (mkF m 419 #[.val (.int p0), .val (.int p1), .val (.int nn), .val (.int v0), .val (.int v1), .val (.int v2), .val (.int v3), .val (.int v4), .val (.ref b796), .val (.ref rr), .val (.int (own_f (0 : Int32) nn v0)), .val (.int (own_f (1 : Int32) nn v1)), .val (.int (own_f (2 : Int32) nn v2)), .val (.int (own_f (3 : Int32) nn v3)), .val (.int (own_f (4 : Int32) nn v4)), .val (.int (own_t (0 : Int32) nn v0)), .val (.int (own_t (1 : Int32) nn v1)), .val (.int (own_t (2 : Int32) nn v2)), .val (.int (own_t (3 : Int32) nn v3)), .val (.int (own_fal nn v0 v1 v2 v3 v4)), .val (.int (own_p0 nn v0 v1 v2 v3 v4)), .val (.int (own_p1 nn v0 v1 v2 v3 v4)), .val (.int (own_p2 nn v0 v1 v2 v3 v4)), .val (.int (own_p3 nn v0 v1 v2 v3 v4)), .unset] [(.int (own_t (0 : Int32) nn v0)), (.int (own_fal nn v0 v1 v2 v3 v4))])) _
          refine XS.iadd Xc.here hx rfl (hb hby at_419) rfl ?_
          show Steps p.tables e below (Tc.setTop (mkF m 420 #[.val (.int p0), .val (.int p1), .val (.int nn), .val (.int v0), .val (.int v1), .val (.int v2), .val (.int v3), .val (.int v4), .val (.ref b796), .val (.ref rr), .val (.int (own_f (0 : Int32) nn v0)), .val (.int (own_f (1 : Int32) nn v1)), .val (.int (own_f (2 : Int32) nn v2)), .val (.int (own_f (3 : Int32) nn v3)), .val (.int (own_f (4 : Int32) nn v4)), .val (.int (own_t (0 : Int32) nn v0)), .val (.int (own_t (1 : Int32) nn v1)), .val (.int (own_t (2 : Int32) nn v2)), .val (.int (own_t (3 : Int32) nn v3)), .val (.int (own_fal nn v0 v1 v2 v3 v4)), .val (.int (own_p0 nn v0 v1 v2 v3 v4)), .val (.int (own_p1 nn v0 v1 v2 v3 v4)), .val (.int (own_p2 nn v0 v1 v2 v3 v4)), .val (.int (own_p3 nn v0 v1 v2 v3 v4)), .unset] [(.int ((own_fal nn v0 v1 v2 v3 v4) + (own_t (0 : Int32) nn v0)))])) _
          refine XS.iload Xc.here hx rfl (hb hby at_420) rfl ?_
          show Steps p.tables e below (Tc.setTop (mkF m 422 #[.val (.int p0), .val (.int p1), .val (.int nn), .val (.int v0), .val (.int v1), .val (.int v2), .val (.int v3), .val (.int v4), .val (.ref b796), .val (.ref rr), .val (.int (own_f (0 : Int32) nn v0)), .val (.int (own_f (1 : Int32) nn v1)), .val (.int (own_f (2 : Int32) nn v2)), .val (.int (own_f (3 : Int32) nn v3)), .val (.int (own_f (4 : Int32) nn v4)), .val (.int (own_t (0 : Int32) nn v0)), .val (.int (own_t (1 : Int32) nn v1)), .val (.int (own_t (2 : Int32) nn v2)), .val (.int (own_t (3 : Int32) nn v3)), .val (.int (own_fal nn v0 v1 v2 v3 v4)), .val (.int (own_p0 nn v0 v1 v2 v3 v4)), .val (.int (own_p1 nn v0 v1 v2 v3 v4)), .val (.int (own_p2 nn v0 v1 v2 v3 v4)), .val (.int (own_p3 nn v0 v1 v2 v3 v4)), .unset] [(.int (own_t (1 : Int32) nn v1)), (.int ((own_fal nn v0 v1 v2 v3 v4) + (own_t (0 : Int32) nn v0)))])) _
          refine XS.iadd Xc.here hx rfl (hb hby at_422) rfl ?_
          show Steps p.tables e below (Tc.setTop (mkF m 423 #[.val (.int p0), .val (.int p1), .val (.int nn), .val (.int v0), .val (.int v1), .val (.int v2), .val (.int v3), .val (.int v4), .val (.ref b796), .val (.ref rr), .val (.int (own_f (0 : Int32) nn v0)), .val (.int (own_f (1 : Int32) nn v1)), .val (.int (own_f (2 : Int32) nn v2)), .val (.int (own_f (3 : Int32) nn v3)), .val (.int (own_f (4 : Int32) nn v4)), .val (.int (own_t (0 : Int32) nn v0)), .val (.int (own_t (1 : Int32) nn v1)), .val (.int (own_t (2 : Int32) nn v2)), .val (.int (own_t (3 : Int32) nn v3)), .val (.int (own_fal nn v0 v1 v2 v3 v4)), .val (.int (own_p0 nn v0 v1 v2 v3 v4)), .val (.int (own_p1 nn v0 v1 v2 v3 v4)), .val (.int (own_p2 nn v0 v1 v2 v3 v4)), .val (.int (own_p3 nn v0 v1 v2 v3 v4)), .unset] [(.int (((own_fal nn v0 v1 v2 v3 v4) + (own_t (0 : Int32) nn v0)) + (own_t (1 : Int32) nn v1)))])) _
          refine XS.iload Xc.here hx rfl (hb hby at_423) rfl ?_
          show Steps p.tables e below (Tc.setTop (mkF m 425 #[.val (.int p0), .val (.int p1), .val (.int nn), .val (.int v0), .val (.int v1), .val (.int v2), .val (.int v3), .val (.int v4), .val (.ref b796), .val (.ref rr), .val (.int (own_f (0 : Int32) nn v0)), .val (.int (own_f (1 : Int32) nn v1)), .val (.int (own_f (2 : Int32) nn v2)), .val (.int (own_f (3 : Int32) nn v3)), .val (.int (own_f (4 : Int32) nn v4)), .val (.int (own_t (0 : Int32) nn v0)), .val (.int (own_t (1 : Int32) nn v1)), .val (.int (own_t (2 : Int32) nn v2)), .val (.int (own_t (3 : Int32) nn v3)), .val (.int (own_fal nn v0 v1 v2 v3 v4)), .val (.int (own_p0 nn v0 v1 v2 v3 v4)), .val (.int (own_p1 nn v0 v1 v2 v3 v4)), .val (.int (own_p2 nn v0 v1 v2 v3 v4)), .val (.int (own_p3 nn v0 v1 v2 v3 v4)), .unset] [(.int (own_t (2 : Int32) nn v2)), (.int (((own_fal nn v0 v1 v2 v3 v4) + (own_t (0 : Int32) nn v0)) + (own_t (1 : Int32) nn v1)))])) _
          refine XS.iadd Xc.here hx rfl (hb hby at_425) rfl ?_
          show Steps p.tables e below (Tc.setTop (mkF m 426 #[.val (.int p0), .val (.int p1), .val (.int nn), .val (.int v0), .val (.int v1), .val (.int v2), .val (.int v3), .val (.int v4), .val (.ref b796), .val (.ref rr), .val (.int (own_f (0 : Int32) nn v0)), .val (.int (own_f (1 : Int32) nn v1)), .val (.int (own_f (2 : Int32) nn v2)), .val (.int (own_f (3 : Int32) nn v3)), .val (.int (own_f (4 : Int32) nn v4)), .val (.int (own_t (0 : Int32) nn v0)), .val (.int (own_t (1 : Int32) nn v1)), .val (.int (own_t (2 : Int32) nn v2)), .val (.int (own_t (3 : Int32) nn v3)), .val (.int (own_fal nn v0 v1 v2 v3 v4)), .val (.int (own_p0 nn v0 v1 v2 v3 v4)), .val (.int (own_p1 nn v0 v1 v2 v3 v4)), .val (.int (own_p2 nn v0 v1 v2 v3 v4)), .val (.int (own_p3 nn v0 v1 v2 v3 v4)), .unset] [(.int ((((own_fal nn v0 v1 v2 v3 v4) + (own_t (0 : Int32) nn v0)) + (own_t (1 : Int32) nn v1)) + (own_t (2 : Int32) nn v2)))])) _
          refine XS.iload Xc.here hx rfl (hb hby at_426) rfl ?_
          show Steps p.tables e below (Tc.setTop (mkF m 428 #[.val (.int p0), .val (.int p1), .val (.int nn), .val (.int v0), .val (.int v1), .val (.int v2), .val (.int v3), .val (.int v4), .val (.ref b796), .val (.ref rr), .val (.int (own_f (0 : Int32) nn v0)), .val (.int (own_f (1 : Int32) nn v1)), .val (.int (own_f (2 : Int32) nn v2)), .val (.int (own_f (3 : Int32) nn v3)), .val (.int (own_f (4 : Int32) nn v4)), .val (.int (own_t (0 : Int32) nn v0)), .val (.int (own_t (1 : Int32) nn v1)), .val (.int (own_t (2 : Int32) nn v2)), .val (.int (own_t (3 : Int32) nn v3)), .val (.int (own_fal nn v0 v1 v2 v3 v4)), .val (.int (own_p0 nn v0 v1 v2 v3 v4)), .val (.int (own_p1 nn v0 v1 v2 v3 v4)), .val (.int (own_p2 nn v0 v1 v2 v3 v4)), .val (.int (own_p3 nn v0 v1 v2 v3 v4)), .unset] [(.int (own_t (3 : Int32) nn v3)), (.int ((((own_fal nn v0 v1 v2 v3 v4) + (own_t (0 : Int32) nn v0)) + (own_t (1 : Int32) nn v1)) + (own_t (2 : Int32) nn v2)))])) _
          refine XS.iadd Xc.here hx rfl (hb hby at_428) rfl ?_
          show Steps p.tables e below (Tc.setTop (mkF m 429 #[.val (.int p0), .val (.int p1), .val (.int nn), .val (.int v0), .val (.int v1), .val (.int v2), .val (.int v3), .val (.int v4), .val (.ref b796), .val (.ref rr), .val (.int (own_f (0 : Int32) nn v0)), .val (.int (own_f (1 : Int32) nn v1)), .val (.int (own_f (2 : Int32) nn v2)), .val (.int (own_f (3 : Int32) nn v3)), .val (.int (own_f (4 : Int32) nn v4)), .val (.int (own_t (0 : Int32) nn v0)), .val (.int (own_t (1 : Int32) nn v1)), .val (.int (own_t (2 : Int32) nn v2)), .val (.int (own_t (3 : Int32) nn v3)), .val (.int (own_fal nn v0 v1 v2 v3 v4)), .val (.int (own_p0 nn v0 v1 v2 v3 v4)), .val (.int (own_p1 nn v0 v1 v2 v3 v4)), .val (.int (own_p2 nn v0 v1 v2 v3 v4)), .val (.int (own_p3 nn v0 v1 v2 v3 v4)), .unset] [(.int (((((own_fal nn v0 v1 v2 v3 v4) + (own_t (0 : Int32) nn v0)) + (own_t (1 : Int32) nn v1)) + (own_t (2 : Int32) nn v2)) + (own_t (3 : Int32) nn v3)))])) _
          refine XS.goto Xc.here hx rfl (pc0 := 429) (pc' := 443) rfl (hb hby at_429) (by decide) (by decide) ?_
          show Steps p.tables e below (Tc.setTop (mkF m 443 #[.val (.int p0), .val (.int p1), .val (.int nn), .val (.int v0), .val (.int v1), .val (.int v2), .val (.int v3), .val (.int v4), .val (.ref b796), .val (.ref rr), .val (.int (own_f (0 : Int32) nn v0)), .val (.int (own_f (1 : Int32) nn v1)), .val (.int (own_f (2 : Int32) nn v2)), .val (.int (own_f (3 : Int32) nn v3)), .val (.int (own_f (4 : Int32) nn v4)), .val (.int (own_t (0 : Int32) nn v0)), .val (.int (own_t (1 : Int32) nn v1)), .val (.int (own_t (2 : Int32) nn v2)), .val (.int (own_t (3 : Int32) nn v3)), .val (.int (own_fal nn v0 v1 v2 v3 v4)), .val (.int (own_p0 nn v0 v1 v2 v3 v4)), .val (.int (own_p1 nn v0 v1 v2 v3 v4)), .val (.int (own_p2 nn v0 v1 v2 v3 v4)), .val (.int (own_p3 nn v0 v1 v2 v3 v4)), .unset] [(.int (((((own_fal nn v0 v1 v2 v3 v4) + (own_t (0 : Int32) nn v0)) + (own_t (1 : Int32) nn v1)) + (own_t (2 : Int32) nn v2)) + (own_t (3 : Int32) nn v3)))])) _
          exact kq)
        exact ⟨(((((own_fal nn v0 v1 v2 v3 v4) + (own_t (0 : Int32) nn v0)) + (own_t (1 : Int32) nn v1)) + (own_t (2 : Int32) nn v2)) + (own_t (3 : Int32) nn v3)), (by exact (if_neg hc920).symm), G922⟩
    subst hG918
    have G923 : Go p e below A0 (Tc.setTop (mkF m 451 #[.val (.int p0), .val (.int p1), .val (.int nn), .val (.int v0), .val (.int v1), .val (.int v2), .val (.int v3), .val (.int v4), .val (.ref b796), .val (.ref rr), .val (.int (own_f (0 : Int32) nn v0)), .val (.int (own_f (1 : Int32) nn v1)), .val (.int (own_f (2 : Int32) nn v2)), .val (.int (own_f (3 : Int32) nn v3)), .val (.int (own_f (4 : Int32) nn v4)), .val (.int (own_t (0 : Int32) nn v0)), .val (.int (own_t (1 : Int32) nn v1)), .val (.int (own_t (2 : Int32) nn v2)), .val (.int (own_t (3 : Int32) nn v3)), .val (.int (own_fal nn v0 v1 v2 v3 v4)), .val (.int (own_p0 nn v0 v1 v2 v3 v4)), .val (.int (own_p1 nn v0 v1 v2 v3 v4)), .val (.int (own_p2 nn v0 v1 v2 v3 v4)), .val (.int (own_p3 nn v0 v1 v2 v3 v4)), .val (.int (own_p4 nn v0 v1 v2 v3 v4))] [(.int (own_p0 nn v0 v1 v2 v3 v4)), (.int (0 : Int32)), (.int nn), (.ref rr)])) := fun tq kq => G918 tq (by
      refine XS.istore Xc.here hx rfl (hb hby at_443) rfl (l' := #[.val (.int p0), .val (.int p1), .val (.int nn), .val (.int v0), .val (.int v1), .val (.int v2), .val (.int v3), .val (.int v4), .val (.ref b796), .val (.ref rr), .val (.int (own_f (0 : Int32) nn v0)), .val (.int (own_f (1 : Int32) nn v1)), .val (.int (own_f (2 : Int32) nn v2)), .val (.int (own_f (3 : Int32) nn v3)), .val (.int (own_f (4 : Int32) nn v4)), .val (.int (own_t (0 : Int32) nn v0)), .val (.int (own_t (1 : Int32) nn v1)), .val (.int (own_t (2 : Int32) nn v2)), .val (.int (own_t (3 : Int32) nn v3)), .val (.int (own_fal nn v0 v1 v2 v3 v4)), .val (.int (own_p0 nn v0 v1 v2 v3 v4)), .val (.int (own_p1 nn v0 v1 v2 v3 v4)), .val (.int (own_p2 nn v0 v1 v2 v3 v4)), .val (.int (own_p3 nn v0 v1 v2 v3 v4)), .val (.int (own_p4 nn v0 v1 v2 v3 v4))]) rfl ?_
      show Steps p.tables e below (Tc.setTop (mkF m 445 #[.val (.int p0), .val (.int p1), .val (.int nn), .val (.int v0), .val (.int v1), .val (.int v2), .val (.int v3), .val (.int v4), .val (.ref b796), .val (.ref rr), .val (.int (own_f (0 : Int32) nn v0)), .val (.int (own_f (1 : Int32) nn v1)), .val (.int (own_f (2 : Int32) nn v2)), .val (.int (own_f (3 : Int32) nn v3)), .val (.int (own_f (4 : Int32) nn v4)), .val (.int (own_t (0 : Int32) nn v0)), .val (.int (own_t (1 : Int32) nn v1)), .val (.int (own_t (2 : Int32) nn v2)), .val (.int (own_t (3 : Int32) nn v3)), .val (.int (own_fal nn v0 v1 v2 v3 v4)), .val (.int (own_p0 nn v0 v1 v2 v3 v4)), .val (.int (own_p1 nn v0 v1 v2 v3 v4)), .val (.int (own_p2 nn v0 v1 v2 v3 v4)), .val (.int (own_p3 nn v0 v1 v2 v3 v4)), .val (.int (own_p4 nn v0 v1 v2 v3 v4))] [])) _
      refine XS.aload Xc.here hx rfl (hb hby at_445) rfl rfl ?_
      show Steps p.tables e below (Tc.setTop (mkF m 447 #[.val (.int p0), .val (.int p1), .val (.int nn), .val (.int v0), .val (.int v1), .val (.int v2), .val (.int v3), .val (.int v4), .val (.ref b796), .val (.ref rr), .val (.int (own_f (0 : Int32) nn v0)), .val (.int (own_f (1 : Int32) nn v1)), .val (.int (own_f (2 : Int32) nn v2)), .val (.int (own_f (3 : Int32) nn v3)), .val (.int (own_f (4 : Int32) nn v4)), .val (.int (own_t (0 : Int32) nn v0)), .val (.int (own_t (1 : Int32) nn v1)), .val (.int (own_t (2 : Int32) nn v2)), .val (.int (own_t (3 : Int32) nn v3)), .val (.int (own_fal nn v0 v1 v2 v3 v4)), .val (.int (own_p0 nn v0 v1 v2 v3 v4)), .val (.int (own_p1 nn v0 v1 v2 v3 v4)), .val (.int (own_p2 nn v0 v1 v2 v3 v4)), .val (.int (own_p3 nn v0 v1 v2 v3 v4)), .val (.int (own_p4 nn v0 v1 v2 v3 v4))] [(.ref rr)])) _
      refine XS.iloadN Xc.here hx rfl (hb hby at_447) rfl ?_
      show Steps p.tables e below (Tc.setTop (mkF m 448 #[.val (.int p0), .val (.int p1), .val (.int nn), .val (.int v0), .val (.int v1), .val (.int v2), .val (.int v3), .val (.int v4), .val (.ref b796), .val (.ref rr), .val (.int (own_f (0 : Int32) nn v0)), .val (.int (own_f (1 : Int32) nn v1)), .val (.int (own_f (2 : Int32) nn v2)), .val (.int (own_f (3 : Int32) nn v3)), .val (.int (own_f (4 : Int32) nn v4)), .val (.int (own_t (0 : Int32) nn v0)), .val (.int (own_t (1 : Int32) nn v1)), .val (.int (own_t (2 : Int32) nn v2)), .val (.int (own_t (3 : Int32) nn v3)), .val (.int (own_fal nn v0 v1 v2 v3 v4)), .val (.int (own_p0 nn v0 v1 v2 v3 v4)), .val (.int (own_p1 nn v0 v1 v2 v3 v4)), .val (.int (own_p2 nn v0 v1 v2 v3 v4)), .val (.int (own_p3 nn v0 v1 v2 v3 v4)), .val (.int (own_p4 nn v0 v1 v2 v3 v4))] [(.int nn), (.ref rr)])) _
      refine XS.iconst Xc.here hx rfl (hb hby at_448) ?_
      show Steps p.tables e below (Tc.setTop (mkF m 449 #[.val (.int p0), .val (.int p1), .val (.int nn), .val (.int v0), .val (.int v1), .val (.int v2), .val (.int v3), .val (.int v4), .val (.ref b796), .val (.ref rr), .val (.int (own_f (0 : Int32) nn v0)), .val (.int (own_f (1 : Int32) nn v1)), .val (.int (own_f (2 : Int32) nn v2)), .val (.int (own_f (3 : Int32) nn v3)), .val (.int (own_f (4 : Int32) nn v4)), .val (.int (own_t (0 : Int32) nn v0)), .val (.int (own_t (1 : Int32) nn v1)), .val (.int (own_t (2 : Int32) nn v2)), .val (.int (own_t (3 : Int32) nn v3)), .val (.int (own_fal nn v0 v1 v2 v3 v4)), .val (.int (own_p0 nn v0 v1 v2 v3 v4)), .val (.int (own_p1 nn v0 v1 v2 v3 v4)), .val (.int (own_p2 nn v0 v1 v2 v3 v4)), .val (.int (own_p3 nn v0 v1 v2 v3 v4)), .val (.int (own_p4 nn v0 v1 v2 v3 v4))] [(.int (0 : Int32)), (.int nn), (.ref rr)])) _
      refine XS.iload Xc.here hx rfl (hb hby at_449) rfl ?_
      show Steps p.tables e below (Tc.setTop (mkF m 451 #[.val (.int p0), .val (.int p1), .val (.int nn), .val (.int v0), .val (.int v1), .val (.int v2), .val (.int v3), .val (.int v4), .val (.ref b796), .val (.ref rr), .val (.int (own_f (0 : Int32) nn v0)), .val (.int (own_f (1 : Int32) nn v1)), .val (.int (own_f (2 : Int32) nn v2)), .val (.int (own_f (3 : Int32) nn v3)), .val (.int (own_f (4 : Int32) nn v4)), .val (.int (own_t (0 : Int32) nn v0)), .val (.int (own_t (1 : Int32) nn v1)), .val (.int (own_t (2 : Int32) nn v2)), .val (.int (own_t (3 : Int32) nn v3)), .val (.int (own_fal nn v0 v1 v2 v3 v4)), .val (.int (own_p0 nn v0 v1 v2 v3 v4)), .val (.int (own_p1 nn v0 v1 v2 v3 v4)), .val (.int (own_p2 nn v0 v1 v2 v3 v4)), .val (.int (own_p3 nn v0 v1 v2 v3 v4)), .val (.int (own_p4 nn v0 v1 v2 v3 v4))] [(.int (own_p0 nn v0 v1 v2 v3 v4)), (.int (0 : Int32)), (.int nn), (.ref rr)])) _
      exact kq)
    obtain ⟨_, _, ⟨T924, L924, k924, n924⟩, -, X924, ⟨Lc924, hQ924, l924, y924, z924⟩, st924⟩ := Jvm.LawKit.callS Xc hx (y := (⟨"com/example/tube2/tube2/trace/BooleanSignalOrderPinLaw", "check", "([IIII)Z"⟩ : MethodName)) hown (mvT hZ (hw _ (List.mem_of_getElem? (i := 31) rfl))) (mvT hZ (hw _ (List.mem_of_getElem? (i := 32) rfl))) (mvT hZ (hw _ (List.mem_of_getElem? (i := 33) rfl))) (mvT hZ (hw _ (List.mem_of_getElem? (i := 34) rfl))) (by decide) (backOf (W := 0) (rm4 l Z a0 hw [] rr nn (0 : Int32) (own_p0 nn v0 v1 v2 v3 v4) kr (own_G nn v0 v1 v2 v3 v4) hc_ n0 zc Ac (own_pos_0 nn v0 v1 v2 v3 v4 hsix hb0 hb1 hb2 hb3 hb4)) hZ (hw _ (List.mem_of_getElem? (i := 34) rfl)) (hw _ (List.mem_of_getElem? (i := 33) rfl)) (by decide) (by decide)) (g := (mkF m 451 #[.val (.int p0), .val (.int p1), .val (.int nn), .val (.int v0), .val (.int v1), .val (.int v2), .val (.int v3), .val (.int v4), .val (.ref b796), .val (.ref rr), .val (.int (own_f (0 : Int32) nn v0)), .val (.int (own_f (1 : Int32) nn v1)), .val (.int (own_f (2 : Int32) nn v2)), .val (.int (own_f (3 : Int32) nn v3)), .val (.int (own_f (4 : Int32) nn v4)), .val (.int (own_t (0 : Int32) nn v0)), .val (.int (own_t (1 : Int32) nn v1)), .val (.int (own_t (2 : Int32) nn v2)), .val (.int (own_t (3 : Int32) nn v3)), .val (.int (own_fal nn v0 v1 v2 v3 v4)), .val (.int (own_p0 nn v0 v1 v2 v3 v4)), .val (.int (own_p1 nn v0 v1 v2 v3 v4)), .val (.int (own_p2 nn v0 v1 v2 v3 v4)), .val (.int (own_p3 nn v0 v1 v2 v3 v4)), .val (.int (own_p4 nn v0 v1 v2 v3 v4))] [(.int (own_p0 nn v0 v1 v2 v3 v4)), (.int (0 : Int32)), (.int nn), (.ref rr)])) rfl (by rw [hml]; rfl) (argsL := [(.ref rr), (.int nn), (.int (0 : Int32)), (.int (own_p0 nn v0 v1 v2 v3 v4))]) (rest := []) (lenOf pd_1 rfl) rfl (by show 2 * 0 + _ ≤ _; exact Nat.le_of_eq rfl) (hb hby at_451) (fun _ _ => ⟨rfl, ec, (by decide : 5 + 0 ≤ _), (by decide : 1040 + 0 ≤ _)⟩)
    dsimp only [Pt.U, Pt.locs, Pt.cells, Pt.slots] at X924 l924 y924 z924 st924 hQ924
    obtain rfl : k924 = 5 := y924
    obtain rfl : n924 = 1040 := z924
    obtain ⟨rfl, N924q, e924⟩ := hQ924
    have N924 : Fr n0 L924 := by rw [l924]; exact Fr.app Nc N924q
    have G925 : Go p e below A0 (T924.setTop (mkF m 454 #[.val (.int p0), .val (.int p1), .val (.int nn), .val (.int v0), .val (.int v1), .val (.int v2), .val (.int v3), .val (.int v4), .val (.ref b796), .val (.ref rr), .val (.int (own_f (0 : Int32) nn v0)), .val (.int (own_f (1 : Int32) nn v1)), .val (.int (own_f (2 : Int32) nn v2)), .val (.int (own_f (3 : Int32) nn v3)), .val (.int (own_f (4 : Int32) nn v4)), .val (.int (own_t (0 : Int32) nn v0)), .val (.int (own_t (1 : Int32) nn v1)), .val (.int (own_t (2 : Int32) nn v2)), .val (.int (own_t (3 : Int32) nn v3)), .val (.int (own_fal nn v0 v1 v2 v3 v4)), .val (.int (own_p0 nn v0 v1 v2 v3 v4)), .val (.int (own_p1 nn v0 v1 v2 v3 v4)), .val (.int (own_p2 nn v0 v1 v2 v3 v4)), .val (.int (own_p3 nn v0 v1 v2 v3 v4)), .val (.int (own_p4 nn v0 v1 v2 v3 v4))] [(.int (1 : Int32))])) := fun tq kq => G923 tq (st924 _ kq)
    have G926 : Go p e below A0 (T924.setTop (mkF m 463 #[.val (.int p0), .val (.int p1), .val (.int nn), .val (.int v0), .val (.int v1), .val (.int v2), .val (.int v3), .val (.int v4), .val (.ref b796), .val (.ref rr), .val (.int (own_f (0 : Int32) nn v0)), .val (.int (own_f (1 : Int32) nn v1)), .val (.int (own_f (2 : Int32) nn v2)), .val (.int (own_f (3 : Int32) nn v3)), .val (.int (own_f (4 : Int32) nn v4)), .val (.int (own_t (0 : Int32) nn v0)), .val (.int (own_t (1 : Int32) nn v1)), .val (.int (own_t (2 : Int32) nn v2)), .val (.int (own_t (3 : Int32) nn v3)), .val (.int (own_fal nn v0 v1 v2 v3 v4)), .val (.int (own_p0 nn v0 v1 v2 v3 v4)), .val (.int (own_p1 nn v0 v1 v2 v3 v4)), .val (.int (own_p2 nn v0 v1 v2 v3 v4)), .val (.int (own_p3 nn v0 v1 v2 v3 v4)), .val (.int (own_p4 nn v0 v1 v2 v3 v4))] [(.int (own_p1 nn v0 v1 v2 v3 v4)), (.int (1 : Int32)), (.int nn), (.ref rr)])) := fun tq kq => G925 tq (by
      refine XS.ifNo X924.here hx rfl (hb hby at_454) rfl (by decide) ?_
      show Steps p.tables e below (T924.setTop (mkF m 457 #[.val (.int p0), .val (.int p1), .val (.int nn), .val (.int v0), .val (.int v1), .val (.int v2), .val (.int v3), .val (.int v4), .val (.ref b796), .val (.ref rr), .val (.int (own_f (0 : Int32) nn v0)), .val (.int (own_f (1 : Int32) nn v1)), .val (.int (own_f (2 : Int32) nn v2)), .val (.int (own_f (3 : Int32) nn v3)), .val (.int (own_f (4 : Int32) nn v4)), .val (.int (own_t (0 : Int32) nn v0)), .val (.int (own_t (1 : Int32) nn v1)), .val (.int (own_t (2 : Int32) nn v2)), .val (.int (own_t (3 : Int32) nn v3)), .val (.int (own_fal nn v0 v1 v2 v3 v4)), .val (.int (own_p0 nn v0 v1 v2 v3 v4)), .val (.int (own_p1 nn v0 v1 v2 v3 v4)), .val (.int (own_p2 nn v0 v1 v2 v3 v4)), .val (.int (own_p3 nn v0 v1 v2 v3 v4)), .val (.int (own_p4 nn v0 v1 v2 v3 v4))] [])) _
      refine XS.aload X924.here hx rfl (hb hby at_457) rfl rfl ?_
      show Steps p.tables e below (T924.setTop (mkF m 459 #[.val (.int p0), .val (.int p1), .val (.int nn), .val (.int v0), .val (.int v1), .val (.int v2), .val (.int v3), .val (.int v4), .val (.ref b796), .val (.ref rr), .val (.int (own_f (0 : Int32) nn v0)), .val (.int (own_f (1 : Int32) nn v1)), .val (.int (own_f (2 : Int32) nn v2)), .val (.int (own_f (3 : Int32) nn v3)), .val (.int (own_f (4 : Int32) nn v4)), .val (.int (own_t (0 : Int32) nn v0)), .val (.int (own_t (1 : Int32) nn v1)), .val (.int (own_t (2 : Int32) nn v2)), .val (.int (own_t (3 : Int32) nn v3)), .val (.int (own_fal nn v0 v1 v2 v3 v4)), .val (.int (own_p0 nn v0 v1 v2 v3 v4)), .val (.int (own_p1 nn v0 v1 v2 v3 v4)), .val (.int (own_p2 nn v0 v1 v2 v3 v4)), .val (.int (own_p3 nn v0 v1 v2 v3 v4)), .val (.int (own_p4 nn v0 v1 v2 v3 v4))] [(.ref rr)])) _
      refine XS.iloadN X924.here hx rfl (hb hby at_459) rfl ?_
      show Steps p.tables e below (T924.setTop (mkF m 460 #[.val (.int p0), .val (.int p1), .val (.int nn), .val (.int v0), .val (.int v1), .val (.int v2), .val (.int v3), .val (.int v4), .val (.ref b796), .val (.ref rr), .val (.int (own_f (0 : Int32) nn v0)), .val (.int (own_f (1 : Int32) nn v1)), .val (.int (own_f (2 : Int32) nn v2)), .val (.int (own_f (3 : Int32) nn v3)), .val (.int (own_f (4 : Int32) nn v4)), .val (.int (own_t (0 : Int32) nn v0)), .val (.int (own_t (1 : Int32) nn v1)), .val (.int (own_t (2 : Int32) nn v2)), .val (.int (own_t (3 : Int32) nn v3)), .val (.int (own_fal nn v0 v1 v2 v3 v4)), .val (.int (own_p0 nn v0 v1 v2 v3 v4)), .val (.int (own_p1 nn v0 v1 v2 v3 v4)), .val (.int (own_p2 nn v0 v1 v2 v3 v4)), .val (.int (own_p3 nn v0 v1 v2 v3 v4)), .val (.int (own_p4 nn v0 v1 v2 v3 v4))] [(.int nn), (.ref rr)])) _
      refine XS.iconst X924.here hx rfl (hb hby at_460) ?_
      show Steps p.tables e below (T924.setTop (mkF m 461 #[.val (.int p0), .val (.int p1), .val (.int nn), .val (.int v0), .val (.int v1), .val (.int v2), .val (.int v3), .val (.int v4), .val (.ref b796), .val (.ref rr), .val (.int (own_f (0 : Int32) nn v0)), .val (.int (own_f (1 : Int32) nn v1)), .val (.int (own_f (2 : Int32) nn v2)), .val (.int (own_f (3 : Int32) nn v3)), .val (.int (own_f (4 : Int32) nn v4)), .val (.int (own_t (0 : Int32) nn v0)), .val (.int (own_t (1 : Int32) nn v1)), .val (.int (own_t (2 : Int32) nn v2)), .val (.int (own_t (3 : Int32) nn v3)), .val (.int (own_fal nn v0 v1 v2 v3 v4)), .val (.int (own_p0 nn v0 v1 v2 v3 v4)), .val (.int (own_p1 nn v0 v1 v2 v3 v4)), .val (.int (own_p2 nn v0 v1 v2 v3 v4)), .val (.int (own_p3 nn v0 v1 v2 v3 v4)), .val (.int (own_p4 nn v0 v1 v2 v3 v4))] [(.int (1 : Int32)), (.int nn), (.ref rr)])) _
      refine XS.iload X924.here hx rfl (hb hby at_461) rfl ?_
      show Steps p.tables e below (T924.setTop (mkF m 463 #[.val (.int p0), .val (.int p1), .val (.int nn), .val (.int v0), .val (.int v1), .val (.int v2), .val (.int v3), .val (.int v4), .val (.ref b796), .val (.ref rr), .val (.int (own_f (0 : Int32) nn v0)), .val (.int (own_f (1 : Int32) nn v1)), .val (.int (own_f (2 : Int32) nn v2)), .val (.int (own_f (3 : Int32) nn v3)), .val (.int (own_f (4 : Int32) nn v4)), .val (.int (own_t (0 : Int32) nn v0)), .val (.int (own_t (1 : Int32) nn v1)), .val (.int (own_t (2 : Int32) nn v2)), .val (.int (own_t (3 : Int32) nn v3)), .val (.int (own_fal nn v0 v1 v2 v3 v4)), .val (.int (own_p0 nn v0 v1 v2 v3 v4)), .val (.int (own_p1 nn v0 v1 v2 v3 v4)), .val (.int (own_p2 nn v0 v1 v2 v3 v4)), .val (.int (own_p3 nn v0 v1 v2 v3 v4)), .val (.int (own_p4 nn v0 v1 v2 v3 v4))] [(.int (own_p1 nn v0 v1 v2 v3 v4)), (.int (1 : Int32)), (.int nn), (.ref rr)])) _
      exact kq)
    obtain ⟨_, _, ⟨T927, L927, k927, n927⟩, -, X927, ⟨Lc927, hQ927, l927, y927, z927⟩, st927⟩ := Jvm.LawKit.callS X924 hx (y := (⟨"com/example/tube2/tube2/trace/BooleanSignalOrderPinLaw", "check", "([IIII)Z"⟩ : MethodName)) hown (mvT hZ (hw _ (List.mem_of_getElem? (i := 31) rfl))) (mvT hZ (hw _ (List.mem_of_getElem? (i := 32) rfl))) (mvT hZ (hw _ (List.mem_of_getElem? (i := 33) rfl))) (mvT hZ (hw _ (List.mem_of_getElem? (i := 34) rfl))) (by decide) (backOf (W := 0) (rm4 l Z a0 hw [] rr nn (1 : Int32) (own_p1 nn v0 v1 v2 v3 v4) kr (own_G nn v0 v1 v2 v3 v4) hc_ n0 zc Ac (own_pos_1 nn v0 v1 v2 v3 v4 hsix hb0 hb1 hb2 hb3 hb4)) hZ (hw _ (List.mem_of_getElem? (i := 34) rfl)) (hw _ (List.mem_of_getElem? (i := 33) rfl)) (by decide) (by decide)) (g := (mkF m 463 #[.val (.int p0), .val (.int p1), .val (.int nn), .val (.int v0), .val (.int v1), .val (.int v2), .val (.int v3), .val (.int v4), .val (.ref b796), .val (.ref rr), .val (.int (own_f (0 : Int32) nn v0)), .val (.int (own_f (1 : Int32) nn v1)), .val (.int (own_f (2 : Int32) nn v2)), .val (.int (own_f (3 : Int32) nn v3)), .val (.int (own_f (4 : Int32) nn v4)), .val (.int (own_t (0 : Int32) nn v0)), .val (.int (own_t (1 : Int32) nn v1)), .val (.int (own_t (2 : Int32) nn v2)), .val (.int (own_t (3 : Int32) nn v3)), .val (.int (own_fal nn v0 v1 v2 v3 v4)), .val (.int (own_p0 nn v0 v1 v2 v3 v4)), .val (.int (own_p1 nn v0 v1 v2 v3 v4)), .val (.int (own_p2 nn v0 v1 v2 v3 v4)), .val (.int (own_p3 nn v0 v1 v2 v3 v4)), .val (.int (own_p4 nn v0 v1 v2 v3 v4))] [(.int (own_p1 nn v0 v1 v2 v3 v4)), (.int (1 : Int32)), (.int nn), (.ref rr)])) rfl (by rw [hml]; rfl) (argsL := [(.ref rr), (.int nn), (.int (1 : Int32)), (.int (own_p1 nn v0 v1 v2 v3 v4))]) (rest := []) (lenOf pd_1 rfl) rfl (by show 2 * 0 + _ ≤ _; exact Nat.le_of_eq rfl) (hb hby at_463) (fun _ _ => ⟨rfl, e924, (by decide : 5 + 0 ≤ _), (by decide : 1040 + 0 ≤ _)⟩)
    dsimp only [Pt.U, Pt.locs, Pt.cells, Pt.slots] at X927 l927 y927 z927 st927 hQ927
    obtain rfl : k927 = 5 := y927
    obtain rfl : n927 = 1040 := z927
    obtain ⟨rfl, N927q, e927⟩ := hQ927
    have N927 : Fr n0 L927 := by rw [l927]; exact Fr.app N924 N927q
    have G928 : Go p e below A0 (T927.setTop (mkF m 466 #[.val (.int p0), .val (.int p1), .val (.int nn), .val (.int v0), .val (.int v1), .val (.int v2), .val (.int v3), .val (.int v4), .val (.ref b796), .val (.ref rr), .val (.int (own_f (0 : Int32) nn v0)), .val (.int (own_f (1 : Int32) nn v1)), .val (.int (own_f (2 : Int32) nn v2)), .val (.int (own_f (3 : Int32) nn v3)), .val (.int (own_f (4 : Int32) nn v4)), .val (.int (own_t (0 : Int32) nn v0)), .val (.int (own_t (1 : Int32) nn v1)), .val (.int (own_t (2 : Int32) nn v2)), .val (.int (own_t (3 : Int32) nn v3)), .val (.int (own_fal nn v0 v1 v2 v3 v4)), .val (.int (own_p0 nn v0 v1 v2 v3 v4)), .val (.int (own_p1 nn v0 v1 v2 v3 v4)), .val (.int (own_p2 nn v0 v1 v2 v3 v4)), .val (.int (own_p3 nn v0 v1 v2 v3 v4)), .val (.int (own_p4 nn v0 v1 v2 v3 v4))] [(.int (1 : Int32))])) := fun tq kq => G926 tq (st927 _ kq)
    have G929 : Go p e below A0 (T927.setTop (mkF m 475 #[.val (.int p0), .val (.int p1), .val (.int nn), .val (.int v0), .val (.int v1), .val (.int v2), .val (.int v3), .val (.int v4), .val (.ref b796), .val (.ref rr), .val (.int (own_f (0 : Int32) nn v0)), .val (.int (own_f (1 : Int32) nn v1)), .val (.int (own_f (2 : Int32) nn v2)), .val (.int (own_f (3 : Int32) nn v3)), .val (.int (own_f (4 : Int32) nn v4)), .val (.int (own_t (0 : Int32) nn v0)), .val (.int (own_t (1 : Int32) nn v1)), .val (.int (own_t (2 : Int32) nn v2)), .val (.int (own_t (3 : Int32) nn v3)), .val (.int (own_fal nn v0 v1 v2 v3 v4)), .val (.int (own_p0 nn v0 v1 v2 v3 v4)), .val (.int (own_p1 nn v0 v1 v2 v3 v4)), .val (.int (own_p2 nn v0 v1 v2 v3 v4)), .val (.int (own_p3 nn v0 v1 v2 v3 v4)), .val (.int (own_p4 nn v0 v1 v2 v3 v4))] [(.int (own_p2 nn v0 v1 v2 v3 v4)), (.int (2 : Int32)), (.int nn), (.ref rr)])) := fun tq kq => G928 tq (by
      refine XS.ifNo X927.here hx rfl (hb hby at_466) rfl (by decide) ?_
      show Steps p.tables e below (T927.setTop (mkF m 469 #[.val (.int p0), .val (.int p1), .val (.int nn), .val (.int v0), .val (.int v1), .val (.int v2), .val (.int v3), .val (.int v4), .val (.ref b796), .val (.ref rr), .val (.int (own_f (0 : Int32) nn v0)), .val (.int (own_f (1 : Int32) nn v1)), .val (.int (own_f (2 : Int32) nn v2)), .val (.int (own_f (3 : Int32) nn v3)), .val (.int (own_f (4 : Int32) nn v4)), .val (.int (own_t (0 : Int32) nn v0)), .val (.int (own_t (1 : Int32) nn v1)), .val (.int (own_t (2 : Int32) nn v2)), .val (.int (own_t (3 : Int32) nn v3)), .val (.int (own_fal nn v0 v1 v2 v3 v4)), .val (.int (own_p0 nn v0 v1 v2 v3 v4)), .val (.int (own_p1 nn v0 v1 v2 v3 v4)), .val (.int (own_p2 nn v0 v1 v2 v3 v4)), .val (.int (own_p3 nn v0 v1 v2 v3 v4)), .val (.int (own_p4 nn v0 v1 v2 v3 v4))] [])) _
      refine XS.aload X927.here hx rfl (hb hby at_469) rfl rfl ?_
      show Steps p.tables e below (T927.setTop (mkF m 471 #[.val (.int p0), .val (.int p1), .val (.int nn), .val (.int v0), .val (.int v1), .val (.int v2), .val (.int v3), .val (.int v4), .val (.ref b796), .val (.ref rr), .val (.int (own_f (0 : Int32) nn v0)), .val (.int (own_f (1 : Int32) nn v1)), .val (.int (own_f (2 : Int32) nn v2)), .val (.int (own_f (3 : Int32) nn v3)), .val (.int (own_f (4 : Int32) nn v4)), .val (.int (own_t (0 : Int32) nn v0)), .val (.int (own_t (1 : Int32) nn v1)), .val (.int (own_t (2 : Int32) nn v2)), .val (.int (own_t (3 : Int32) nn v3)), .val (.int (own_fal nn v0 v1 v2 v3 v4)), .val (.int (own_p0 nn v0 v1 v2 v3 v4)), .val (.int (own_p1 nn v0 v1 v2 v3 v4)), .val (.int (own_p2 nn v0 v1 v2 v3 v4)), .val (.int (own_p3 nn v0 v1 v2 v3 v4)), .val (.int (own_p4 nn v0 v1 v2 v3 v4))] [(.ref rr)])) _
      refine XS.iloadN X927.here hx rfl (hb hby at_471) rfl ?_
      show Steps p.tables e below (T927.setTop (mkF m 472 #[.val (.int p0), .val (.int p1), .val (.int nn), .val (.int v0), .val (.int v1), .val (.int v2), .val (.int v3), .val (.int v4), .val (.ref b796), .val (.ref rr), .val (.int (own_f (0 : Int32) nn v0)), .val (.int (own_f (1 : Int32) nn v1)), .val (.int (own_f (2 : Int32) nn v2)), .val (.int (own_f (3 : Int32) nn v3)), .val (.int (own_f (4 : Int32) nn v4)), .val (.int (own_t (0 : Int32) nn v0)), .val (.int (own_t (1 : Int32) nn v1)), .val (.int (own_t (2 : Int32) nn v2)), .val (.int (own_t (3 : Int32) nn v3)), .val (.int (own_fal nn v0 v1 v2 v3 v4)), .val (.int (own_p0 nn v0 v1 v2 v3 v4)), .val (.int (own_p1 nn v0 v1 v2 v3 v4)), .val (.int (own_p2 nn v0 v1 v2 v3 v4)), .val (.int (own_p3 nn v0 v1 v2 v3 v4)), .val (.int (own_p4 nn v0 v1 v2 v3 v4))] [(.int nn), (.ref rr)])) _
      refine XS.iconst X927.here hx rfl (hb hby at_472) ?_
      show Steps p.tables e below (T927.setTop (mkF m 473 #[.val (.int p0), .val (.int p1), .val (.int nn), .val (.int v0), .val (.int v1), .val (.int v2), .val (.int v3), .val (.int v4), .val (.ref b796), .val (.ref rr), .val (.int (own_f (0 : Int32) nn v0)), .val (.int (own_f (1 : Int32) nn v1)), .val (.int (own_f (2 : Int32) nn v2)), .val (.int (own_f (3 : Int32) nn v3)), .val (.int (own_f (4 : Int32) nn v4)), .val (.int (own_t (0 : Int32) nn v0)), .val (.int (own_t (1 : Int32) nn v1)), .val (.int (own_t (2 : Int32) nn v2)), .val (.int (own_t (3 : Int32) nn v3)), .val (.int (own_fal nn v0 v1 v2 v3 v4)), .val (.int (own_p0 nn v0 v1 v2 v3 v4)), .val (.int (own_p1 nn v0 v1 v2 v3 v4)), .val (.int (own_p2 nn v0 v1 v2 v3 v4)), .val (.int (own_p3 nn v0 v1 v2 v3 v4)), .val (.int (own_p4 nn v0 v1 v2 v3 v4))] [(.int (2 : Int32)), (.int nn), (.ref rr)])) _
      refine XS.iload X927.here hx rfl (hb hby at_473) rfl ?_
      show Steps p.tables e below (T927.setTop (mkF m 475 #[.val (.int p0), .val (.int p1), .val (.int nn), .val (.int v0), .val (.int v1), .val (.int v2), .val (.int v3), .val (.int v4), .val (.ref b796), .val (.ref rr), .val (.int (own_f (0 : Int32) nn v0)), .val (.int (own_f (1 : Int32) nn v1)), .val (.int (own_f (2 : Int32) nn v2)), .val (.int (own_f (3 : Int32) nn v3)), .val (.int (own_f (4 : Int32) nn v4)), .val (.int (own_t (0 : Int32) nn v0)), .val (.int (own_t (1 : Int32) nn v1)), .val (.int (own_t (2 : Int32) nn v2)), .val (.int (own_t (3 : Int32) nn v3)), .val (.int (own_fal nn v0 v1 v2 v3 v4)), .val (.int (own_p0 nn v0 v1 v2 v3 v4)), .val (.int (own_p1 nn v0 v1 v2 v3 v4)), .val (.int (own_p2 nn v0 v1 v2 v3 v4)), .val (.int (own_p3 nn v0 v1 v2 v3 v4)), .val (.int (own_p4 nn v0 v1 v2 v3 v4))] [(.int (own_p2 nn v0 v1 v2 v3 v4)), (.int (2 : Int32)), (.int nn), (.ref rr)])) _
      exact kq)
    obtain ⟨_, _, ⟨T930, L930, k930, n930⟩, -, X930, ⟨Lc930, hQ930, l930, y930, z930⟩, st930⟩ := Jvm.LawKit.callS X927 hx (y := (⟨"com/example/tube2/tube2/trace/BooleanSignalOrderPinLaw", "check", "([IIII)Z"⟩ : MethodName)) hown (mvT hZ (hw _ (List.mem_of_getElem? (i := 31) rfl))) (mvT hZ (hw _ (List.mem_of_getElem? (i := 32) rfl))) (mvT hZ (hw _ (List.mem_of_getElem? (i := 33) rfl))) (mvT hZ (hw _ (List.mem_of_getElem? (i := 34) rfl))) (by decide) (backOf (W := 0) (rm4 l Z a0 hw [] rr nn (2 : Int32) (own_p2 nn v0 v1 v2 v3 v4) kr (own_G nn v0 v1 v2 v3 v4) hc_ n0 zc Ac (own_pos_2 nn v0 v1 v2 v3 v4 hsix hb0 hb1 hb2 hb3 hb4)) hZ (hw _ (List.mem_of_getElem? (i := 34) rfl)) (hw _ (List.mem_of_getElem? (i := 33) rfl)) (by decide) (by decide)) (g := (mkF m 475 #[.val (.int p0), .val (.int p1), .val (.int nn), .val (.int v0), .val (.int v1), .val (.int v2), .val (.int v3), .val (.int v4), .val (.ref b796), .val (.ref rr), .val (.int (own_f (0 : Int32) nn v0)), .val (.int (own_f (1 : Int32) nn v1)), .val (.int (own_f (2 : Int32) nn v2)), .val (.int (own_f (3 : Int32) nn v3)), .val (.int (own_f (4 : Int32) nn v4)), .val (.int (own_t (0 : Int32) nn v0)), .val (.int (own_t (1 : Int32) nn v1)), .val (.int (own_t (2 : Int32) nn v2)), .val (.int (own_t (3 : Int32) nn v3)), .val (.int (own_fal nn v0 v1 v2 v3 v4)), .val (.int (own_p0 nn v0 v1 v2 v3 v4)), .val (.int (own_p1 nn v0 v1 v2 v3 v4)), .val (.int (own_p2 nn v0 v1 v2 v3 v4)), .val (.int (own_p3 nn v0 v1 v2 v3 v4)), .val (.int (own_p4 nn v0 v1 v2 v3 v4))] [(.int (own_p2 nn v0 v1 v2 v3 v4)), (.int (2 : Int32)), (.int nn), (.ref rr)])) rfl (by rw [hml]; rfl) (argsL := [(.ref rr), (.int nn), (.int (2 : Int32)), (.int (own_p2 nn v0 v1 v2 v3 v4))]) (rest := []) (lenOf pd_1 rfl) rfl (by show 2 * 0 + _ ≤ _; exact Nat.le_of_eq rfl) (hb hby at_475) (fun _ _ => ⟨rfl, e927, (by decide : 5 + 0 ≤ _), (by decide : 1040 + 0 ≤ _)⟩)
    dsimp only [Pt.U, Pt.locs, Pt.cells, Pt.slots] at X930 l930 y930 z930 st930 hQ930
    obtain rfl : k930 = 5 := y930
    obtain rfl : n930 = 1040 := z930
    obtain ⟨rfl, N930q, e930⟩ := hQ930
    have N930 : Fr n0 L930 := by rw [l930]; exact Fr.app N927 N930q
    have G931 : Go p e below A0 (T930.setTop (mkF m 478 #[.val (.int p0), .val (.int p1), .val (.int nn), .val (.int v0), .val (.int v1), .val (.int v2), .val (.int v3), .val (.int v4), .val (.ref b796), .val (.ref rr), .val (.int (own_f (0 : Int32) nn v0)), .val (.int (own_f (1 : Int32) nn v1)), .val (.int (own_f (2 : Int32) nn v2)), .val (.int (own_f (3 : Int32) nn v3)), .val (.int (own_f (4 : Int32) nn v4)), .val (.int (own_t (0 : Int32) nn v0)), .val (.int (own_t (1 : Int32) nn v1)), .val (.int (own_t (2 : Int32) nn v2)), .val (.int (own_t (3 : Int32) nn v3)), .val (.int (own_fal nn v0 v1 v2 v3 v4)), .val (.int (own_p0 nn v0 v1 v2 v3 v4)), .val (.int (own_p1 nn v0 v1 v2 v3 v4)), .val (.int (own_p2 nn v0 v1 v2 v3 v4)), .val (.int (own_p3 nn v0 v1 v2 v3 v4)), .val (.int (own_p4 nn v0 v1 v2 v3 v4))] [(.int (1 : Int32))])) := fun tq kq => G929 tq (st930 _ kq)
    have G932 : Go p e below A0 (T930.setTop (mkF m 487 #[.val (.int p0), .val (.int p1), .val (.int nn), .val (.int v0), .val (.int v1), .val (.int v2), .val (.int v3), .val (.int v4), .val (.ref b796), .val (.ref rr), .val (.int (own_f (0 : Int32) nn v0)), .val (.int (own_f (1 : Int32) nn v1)), .val (.int (own_f (2 : Int32) nn v2)), .val (.int (own_f (3 : Int32) nn v3)), .val (.int (own_f (4 : Int32) nn v4)), .val (.int (own_t (0 : Int32) nn v0)), .val (.int (own_t (1 : Int32) nn v1)), .val (.int (own_t (2 : Int32) nn v2)), .val (.int (own_t (3 : Int32) nn v3)), .val (.int (own_fal nn v0 v1 v2 v3 v4)), .val (.int (own_p0 nn v0 v1 v2 v3 v4)), .val (.int (own_p1 nn v0 v1 v2 v3 v4)), .val (.int (own_p2 nn v0 v1 v2 v3 v4)), .val (.int (own_p3 nn v0 v1 v2 v3 v4)), .val (.int (own_p4 nn v0 v1 v2 v3 v4))] [(.int (own_p3 nn v0 v1 v2 v3 v4)), (.int (3 : Int32)), (.int nn), (.ref rr)])) := fun tq kq => G931 tq (by
      refine XS.ifNo X930.here hx rfl (hb hby at_478) rfl (by decide) ?_
      show Steps p.tables e below (T930.setTop (mkF m 481 #[.val (.int p0), .val (.int p1), .val (.int nn), .val (.int v0), .val (.int v1), .val (.int v2), .val (.int v3), .val (.int v4), .val (.ref b796), .val (.ref rr), .val (.int (own_f (0 : Int32) nn v0)), .val (.int (own_f (1 : Int32) nn v1)), .val (.int (own_f (2 : Int32) nn v2)), .val (.int (own_f (3 : Int32) nn v3)), .val (.int (own_f (4 : Int32) nn v4)), .val (.int (own_t (0 : Int32) nn v0)), .val (.int (own_t (1 : Int32) nn v1)), .val (.int (own_t (2 : Int32) nn v2)), .val (.int (own_t (3 : Int32) nn v3)), .val (.int (own_fal nn v0 v1 v2 v3 v4)), .val (.int (own_p0 nn v0 v1 v2 v3 v4)), .val (.int (own_p1 nn v0 v1 v2 v3 v4)), .val (.int (own_p2 nn v0 v1 v2 v3 v4)), .val (.int (own_p3 nn v0 v1 v2 v3 v4)), .val (.int (own_p4 nn v0 v1 v2 v3 v4))] [])) _
      refine XS.aload X930.here hx rfl (hb hby at_481) rfl rfl ?_
      show Steps p.tables e below (T930.setTop (mkF m 483 #[.val (.int p0), .val (.int p1), .val (.int nn), .val (.int v0), .val (.int v1), .val (.int v2), .val (.int v3), .val (.int v4), .val (.ref b796), .val (.ref rr), .val (.int (own_f (0 : Int32) nn v0)), .val (.int (own_f (1 : Int32) nn v1)), .val (.int (own_f (2 : Int32) nn v2)), .val (.int (own_f (3 : Int32) nn v3)), .val (.int (own_f (4 : Int32) nn v4)), .val (.int (own_t (0 : Int32) nn v0)), .val (.int (own_t (1 : Int32) nn v1)), .val (.int (own_t (2 : Int32) nn v2)), .val (.int (own_t (3 : Int32) nn v3)), .val (.int (own_fal nn v0 v1 v2 v3 v4)), .val (.int (own_p0 nn v0 v1 v2 v3 v4)), .val (.int (own_p1 nn v0 v1 v2 v3 v4)), .val (.int (own_p2 nn v0 v1 v2 v3 v4)), .val (.int (own_p3 nn v0 v1 v2 v3 v4)), .val (.int (own_p4 nn v0 v1 v2 v3 v4))] [(.ref rr)])) _
      refine XS.iloadN X930.here hx rfl (hb hby at_483) rfl ?_
      show Steps p.tables e below (T930.setTop (mkF m 484 #[.val (.int p0), .val (.int p1), .val (.int nn), .val (.int v0), .val (.int v1), .val (.int v2), .val (.int v3), .val (.int v4), .val (.ref b796), .val (.ref rr), .val (.int (own_f (0 : Int32) nn v0)), .val (.int (own_f (1 : Int32) nn v1)), .val (.int (own_f (2 : Int32) nn v2)), .val (.int (own_f (3 : Int32) nn v3)), .val (.int (own_f (4 : Int32) nn v4)), .val (.int (own_t (0 : Int32) nn v0)), .val (.int (own_t (1 : Int32) nn v1)), .val (.int (own_t (2 : Int32) nn v2)), .val (.int (own_t (3 : Int32) nn v3)), .val (.int (own_fal nn v0 v1 v2 v3 v4)), .val (.int (own_p0 nn v0 v1 v2 v3 v4)), .val (.int (own_p1 nn v0 v1 v2 v3 v4)), .val (.int (own_p2 nn v0 v1 v2 v3 v4)), .val (.int (own_p3 nn v0 v1 v2 v3 v4)), .val (.int (own_p4 nn v0 v1 v2 v3 v4))] [(.int nn), (.ref rr)])) _
      refine XS.iconst X930.here hx rfl (hb hby at_484) ?_
      show Steps p.tables e below (T930.setTop (mkF m 485 #[.val (.int p0), .val (.int p1), .val (.int nn), .val (.int v0), .val (.int v1), .val (.int v2), .val (.int v3), .val (.int v4), .val (.ref b796), .val (.ref rr), .val (.int (own_f (0 : Int32) nn v0)), .val (.int (own_f (1 : Int32) nn v1)), .val (.int (own_f (2 : Int32) nn v2)), .val (.int (own_f (3 : Int32) nn v3)), .val (.int (own_f (4 : Int32) nn v4)), .val (.int (own_t (0 : Int32) nn v0)), .val (.int (own_t (1 : Int32) nn v1)), .val (.int (own_t (2 : Int32) nn v2)), .val (.int (own_t (3 : Int32) nn v3)), .val (.int (own_fal nn v0 v1 v2 v3 v4)), .val (.int (own_p0 nn v0 v1 v2 v3 v4)), .val (.int (own_p1 nn v0 v1 v2 v3 v4)), .val (.int (own_p2 nn v0 v1 v2 v3 v4)), .val (.int (own_p3 nn v0 v1 v2 v3 v4)), .val (.int (own_p4 nn v0 v1 v2 v3 v4))] [(.int (3 : Int32)), (.int nn), (.ref rr)])) _
      refine XS.iload X930.here hx rfl (hb hby at_485) rfl ?_
      show Steps p.tables e below (T930.setTop (mkF m 487 #[.val (.int p0), .val (.int p1), .val (.int nn), .val (.int v0), .val (.int v1), .val (.int v2), .val (.int v3), .val (.int v4), .val (.ref b796), .val (.ref rr), .val (.int (own_f (0 : Int32) nn v0)), .val (.int (own_f (1 : Int32) nn v1)), .val (.int (own_f (2 : Int32) nn v2)), .val (.int (own_f (3 : Int32) nn v3)), .val (.int (own_f (4 : Int32) nn v4)), .val (.int (own_t (0 : Int32) nn v0)), .val (.int (own_t (1 : Int32) nn v1)), .val (.int (own_t (2 : Int32) nn v2)), .val (.int (own_t (3 : Int32) nn v3)), .val (.int (own_fal nn v0 v1 v2 v3 v4)), .val (.int (own_p0 nn v0 v1 v2 v3 v4)), .val (.int (own_p1 nn v0 v1 v2 v3 v4)), .val (.int (own_p2 nn v0 v1 v2 v3 v4)), .val (.int (own_p3 nn v0 v1 v2 v3 v4)), .val (.int (own_p4 nn v0 v1 v2 v3 v4))] [(.int (own_p3 nn v0 v1 v2 v3 v4)), (.int (3 : Int32)), (.int nn), (.ref rr)])) _
      exact kq)
    obtain ⟨_, _, ⟨T933, L933, k933, n933⟩, -, X933, ⟨Lc933, hQ933, l933, y933, z933⟩, st933⟩ := Jvm.LawKit.callS X930 hx (y := (⟨"com/example/tube2/tube2/trace/BooleanSignalOrderPinLaw", "check", "([IIII)Z"⟩ : MethodName)) hown (mvT hZ (hw _ (List.mem_of_getElem? (i := 31) rfl))) (mvT hZ (hw _ (List.mem_of_getElem? (i := 32) rfl))) (mvT hZ (hw _ (List.mem_of_getElem? (i := 33) rfl))) (mvT hZ (hw _ (List.mem_of_getElem? (i := 34) rfl))) (by decide) (backOf (W := 0) (rm4 l Z a0 hw [] rr nn (3 : Int32) (own_p3 nn v0 v1 v2 v3 v4) kr (own_G nn v0 v1 v2 v3 v4) hc_ n0 zc Ac (own_pos_3 nn v0 v1 v2 v3 v4 hsix hb0 hb1 hb2 hb3 hb4)) hZ (hw _ (List.mem_of_getElem? (i := 34) rfl)) (hw _ (List.mem_of_getElem? (i := 33) rfl)) (by decide) (by decide)) (g := (mkF m 487 #[.val (.int p0), .val (.int p1), .val (.int nn), .val (.int v0), .val (.int v1), .val (.int v2), .val (.int v3), .val (.int v4), .val (.ref b796), .val (.ref rr), .val (.int (own_f (0 : Int32) nn v0)), .val (.int (own_f (1 : Int32) nn v1)), .val (.int (own_f (2 : Int32) nn v2)), .val (.int (own_f (3 : Int32) nn v3)), .val (.int (own_f (4 : Int32) nn v4)), .val (.int (own_t (0 : Int32) nn v0)), .val (.int (own_t (1 : Int32) nn v1)), .val (.int (own_t (2 : Int32) nn v2)), .val (.int (own_t (3 : Int32) nn v3)), .val (.int (own_fal nn v0 v1 v2 v3 v4)), .val (.int (own_p0 nn v0 v1 v2 v3 v4)), .val (.int (own_p1 nn v0 v1 v2 v3 v4)), .val (.int (own_p2 nn v0 v1 v2 v3 v4)), .val (.int (own_p3 nn v0 v1 v2 v3 v4)), .val (.int (own_p4 nn v0 v1 v2 v3 v4))] [(.int (own_p3 nn v0 v1 v2 v3 v4)), (.int (3 : Int32)), (.int nn), (.ref rr)])) rfl (by rw [hml]; rfl) (argsL := [(.ref rr), (.int nn), (.int (3 : Int32)), (.int (own_p3 nn v0 v1 v2 v3 v4))]) (rest := []) (lenOf pd_1 rfl) rfl (by show 2 * 0 + _ ≤ _; exact Nat.le_of_eq rfl) (hb hby at_487) (fun _ _ => ⟨rfl, e930, (by decide : 5 + 0 ≤ _), (by decide : 1040 + 0 ≤ _)⟩)
    dsimp only [Pt.U, Pt.locs, Pt.cells, Pt.slots] at X933 l933 y933 z933 st933 hQ933
    obtain rfl : k933 = 5 := y933
    obtain rfl : n933 = 1040 := z933
    obtain ⟨rfl, N933q, e933⟩ := hQ933
    have N933 : Fr n0 L933 := by rw [l933]; exact Fr.app N930 N933q
    have G934 : Go p e below A0 (T933.setTop (mkF m 490 #[.val (.int p0), .val (.int p1), .val (.int nn), .val (.int v0), .val (.int v1), .val (.int v2), .val (.int v3), .val (.int v4), .val (.ref b796), .val (.ref rr), .val (.int (own_f (0 : Int32) nn v0)), .val (.int (own_f (1 : Int32) nn v1)), .val (.int (own_f (2 : Int32) nn v2)), .val (.int (own_f (3 : Int32) nn v3)), .val (.int (own_f (4 : Int32) nn v4)), .val (.int (own_t (0 : Int32) nn v0)), .val (.int (own_t (1 : Int32) nn v1)), .val (.int (own_t (2 : Int32) nn v2)), .val (.int (own_t (3 : Int32) nn v3)), .val (.int (own_fal nn v0 v1 v2 v3 v4)), .val (.int (own_p0 nn v0 v1 v2 v3 v4)), .val (.int (own_p1 nn v0 v1 v2 v3 v4)), .val (.int (own_p2 nn v0 v1 v2 v3 v4)), .val (.int (own_p3 nn v0 v1 v2 v3 v4)), .val (.int (own_p4 nn v0 v1 v2 v3 v4))] [(.int (1 : Int32))])) := fun tq kq => G932 tq (st933 _ kq)
    have G935 : Go p e below A0 (T933.setTop (mkF m 499 #[.val (.int p0), .val (.int p1), .val (.int nn), .val (.int v0), .val (.int v1), .val (.int v2), .val (.int v3), .val (.int v4), .val (.ref b796), .val (.ref rr), .val (.int (own_f (0 : Int32) nn v0)), .val (.int (own_f (1 : Int32) nn v1)), .val (.int (own_f (2 : Int32) nn v2)), .val (.int (own_f (3 : Int32) nn v3)), .val (.int (own_f (4 : Int32) nn v4)), .val (.int (own_t (0 : Int32) nn v0)), .val (.int (own_t (1 : Int32) nn v1)), .val (.int (own_t (2 : Int32) nn v2)), .val (.int (own_t (3 : Int32) nn v3)), .val (.int (own_fal nn v0 v1 v2 v3 v4)), .val (.int (own_p0 nn v0 v1 v2 v3 v4)), .val (.int (own_p1 nn v0 v1 v2 v3 v4)), .val (.int (own_p2 nn v0 v1 v2 v3 v4)), .val (.int (own_p3 nn v0 v1 v2 v3 v4)), .val (.int (own_p4 nn v0 v1 v2 v3 v4))] [(.int (own_p4 nn v0 v1 v2 v3 v4)), (.int (4 : Int32)), (.int nn), (.ref rr)])) := fun tq kq => G934 tq (by
      refine XS.ifNo X933.here hx rfl (hb hby at_490) rfl (by decide) ?_
      show Steps p.tables e below (T933.setTop (mkF m 493 #[.val (.int p0), .val (.int p1), .val (.int nn), .val (.int v0), .val (.int v1), .val (.int v2), .val (.int v3), .val (.int v4), .val (.ref b796), .val (.ref rr), .val (.int (own_f (0 : Int32) nn v0)), .val (.int (own_f (1 : Int32) nn v1)), .val (.int (own_f (2 : Int32) nn v2)), .val (.int (own_f (3 : Int32) nn v3)), .val (.int (own_f (4 : Int32) nn v4)), .val (.int (own_t (0 : Int32) nn v0)), .val (.int (own_t (1 : Int32) nn v1)), .val (.int (own_t (2 : Int32) nn v2)), .val (.int (own_t (3 : Int32) nn v3)), .val (.int (own_fal nn v0 v1 v2 v3 v4)), .val (.int (own_p0 nn v0 v1 v2 v3 v4)), .val (.int (own_p1 nn v0 v1 v2 v3 v4)), .val (.int (own_p2 nn v0 v1 v2 v3 v4)), .val (.int (own_p3 nn v0 v1 v2 v3 v4)), .val (.int (own_p4 nn v0 v1 v2 v3 v4))] [])) _
      refine XS.aload X933.here hx rfl (hb hby at_493) rfl rfl ?_
      show Steps p.tables e below (T933.setTop (mkF m 495 #[.val (.int p0), .val (.int p1), .val (.int nn), .val (.int v0), .val (.int v1), .val (.int v2), .val (.int v3), .val (.int v4), .val (.ref b796), .val (.ref rr), .val (.int (own_f (0 : Int32) nn v0)), .val (.int (own_f (1 : Int32) nn v1)), .val (.int (own_f (2 : Int32) nn v2)), .val (.int (own_f (3 : Int32) nn v3)), .val (.int (own_f (4 : Int32) nn v4)), .val (.int (own_t (0 : Int32) nn v0)), .val (.int (own_t (1 : Int32) nn v1)), .val (.int (own_t (2 : Int32) nn v2)), .val (.int (own_t (3 : Int32) nn v3)), .val (.int (own_fal nn v0 v1 v2 v3 v4)), .val (.int (own_p0 nn v0 v1 v2 v3 v4)), .val (.int (own_p1 nn v0 v1 v2 v3 v4)), .val (.int (own_p2 nn v0 v1 v2 v3 v4)), .val (.int (own_p3 nn v0 v1 v2 v3 v4)), .val (.int (own_p4 nn v0 v1 v2 v3 v4))] [(.ref rr)])) _
      refine XS.iloadN X933.here hx rfl (hb hby at_495) rfl ?_
      show Steps p.tables e below (T933.setTop (mkF m 496 #[.val (.int p0), .val (.int p1), .val (.int nn), .val (.int v0), .val (.int v1), .val (.int v2), .val (.int v3), .val (.int v4), .val (.ref b796), .val (.ref rr), .val (.int (own_f (0 : Int32) nn v0)), .val (.int (own_f (1 : Int32) nn v1)), .val (.int (own_f (2 : Int32) nn v2)), .val (.int (own_f (3 : Int32) nn v3)), .val (.int (own_f (4 : Int32) nn v4)), .val (.int (own_t (0 : Int32) nn v0)), .val (.int (own_t (1 : Int32) nn v1)), .val (.int (own_t (2 : Int32) nn v2)), .val (.int (own_t (3 : Int32) nn v3)), .val (.int (own_fal nn v0 v1 v2 v3 v4)), .val (.int (own_p0 nn v0 v1 v2 v3 v4)), .val (.int (own_p1 nn v0 v1 v2 v3 v4)), .val (.int (own_p2 nn v0 v1 v2 v3 v4)), .val (.int (own_p3 nn v0 v1 v2 v3 v4)), .val (.int (own_p4 nn v0 v1 v2 v3 v4))] [(.int nn), (.ref rr)])) _
      refine XS.iconst X933.here hx rfl (hb hby at_496) ?_
      show Steps p.tables e below (T933.setTop (mkF m 497 #[.val (.int p0), .val (.int p1), .val (.int nn), .val (.int v0), .val (.int v1), .val (.int v2), .val (.int v3), .val (.int v4), .val (.ref b796), .val (.ref rr), .val (.int (own_f (0 : Int32) nn v0)), .val (.int (own_f (1 : Int32) nn v1)), .val (.int (own_f (2 : Int32) nn v2)), .val (.int (own_f (3 : Int32) nn v3)), .val (.int (own_f (4 : Int32) nn v4)), .val (.int (own_t (0 : Int32) nn v0)), .val (.int (own_t (1 : Int32) nn v1)), .val (.int (own_t (2 : Int32) nn v2)), .val (.int (own_t (3 : Int32) nn v3)), .val (.int (own_fal nn v0 v1 v2 v3 v4)), .val (.int (own_p0 nn v0 v1 v2 v3 v4)), .val (.int (own_p1 nn v0 v1 v2 v3 v4)), .val (.int (own_p2 nn v0 v1 v2 v3 v4)), .val (.int (own_p3 nn v0 v1 v2 v3 v4)), .val (.int (own_p4 nn v0 v1 v2 v3 v4))] [(.int (4 : Int32)), (.int nn), (.ref rr)])) _
      refine XS.iload X933.here hx rfl (hb hby at_497) rfl ?_
      show Steps p.tables e below (T933.setTop (mkF m 499 #[.val (.int p0), .val (.int p1), .val (.int nn), .val (.int v0), .val (.int v1), .val (.int v2), .val (.int v3), .val (.int v4), .val (.ref b796), .val (.ref rr), .val (.int (own_f (0 : Int32) nn v0)), .val (.int (own_f (1 : Int32) nn v1)), .val (.int (own_f (2 : Int32) nn v2)), .val (.int (own_f (3 : Int32) nn v3)), .val (.int (own_f (4 : Int32) nn v4)), .val (.int (own_t (0 : Int32) nn v0)), .val (.int (own_t (1 : Int32) nn v1)), .val (.int (own_t (2 : Int32) nn v2)), .val (.int (own_t (3 : Int32) nn v3)), .val (.int (own_fal nn v0 v1 v2 v3 v4)), .val (.int (own_p0 nn v0 v1 v2 v3 v4)), .val (.int (own_p1 nn v0 v1 v2 v3 v4)), .val (.int (own_p2 nn v0 v1 v2 v3 v4)), .val (.int (own_p3 nn v0 v1 v2 v3 v4)), .val (.int (own_p4 nn v0 v1 v2 v3 v4))] [(.int (own_p4 nn v0 v1 v2 v3 v4)), (.int (4 : Int32)), (.int nn), (.ref rr)])) _
      exact kq)
    obtain ⟨_, _, ⟨T936, L936, k936, n936⟩, -, X936, ⟨Lc936, hQ936, l936, y936, z936⟩, st936⟩ := Jvm.LawKit.callS X933 hx (y := (⟨"com/example/tube2/tube2/trace/BooleanSignalOrderPinLaw", "check", "([IIII)Z"⟩ : MethodName)) hown (mvT hZ (hw _ (List.mem_of_getElem? (i := 31) rfl))) (mvT hZ (hw _ (List.mem_of_getElem? (i := 32) rfl))) (mvT hZ (hw _ (List.mem_of_getElem? (i := 33) rfl))) (mvT hZ (hw _ (List.mem_of_getElem? (i := 34) rfl))) (by decide) (backOf (W := 0) (rm4 l Z a0 hw [] rr nn (4 : Int32) (own_p4 nn v0 v1 v2 v3 v4) kr (own_G nn v0 v1 v2 v3 v4) hc_ n0 zc Ac (own_pos_4 nn v0 v1 v2 v3 v4 hsix hb0 hb1 hb2 hb3 hb4)) hZ (hw _ (List.mem_of_getElem? (i := 34) rfl)) (hw _ (List.mem_of_getElem? (i := 33) rfl)) (by decide) (by decide)) (g := (mkF m 499 #[.val (.int p0), .val (.int p1), .val (.int nn), .val (.int v0), .val (.int v1), .val (.int v2), .val (.int v3), .val (.int v4), .val (.ref b796), .val (.ref rr), .val (.int (own_f (0 : Int32) nn v0)), .val (.int (own_f (1 : Int32) nn v1)), .val (.int (own_f (2 : Int32) nn v2)), .val (.int (own_f (3 : Int32) nn v3)), .val (.int (own_f (4 : Int32) nn v4)), .val (.int (own_t (0 : Int32) nn v0)), .val (.int (own_t (1 : Int32) nn v1)), .val (.int (own_t (2 : Int32) nn v2)), .val (.int (own_t (3 : Int32) nn v3)), .val (.int (own_fal nn v0 v1 v2 v3 v4)), .val (.int (own_p0 nn v0 v1 v2 v3 v4)), .val (.int (own_p1 nn v0 v1 v2 v3 v4)), .val (.int (own_p2 nn v0 v1 v2 v3 v4)), .val (.int (own_p3 nn v0 v1 v2 v3 v4)), .val (.int (own_p4 nn v0 v1 v2 v3 v4))] [(.int (own_p4 nn v0 v1 v2 v3 v4)), (.int (4 : Int32)), (.int nn), (.ref rr)])) rfl (by rw [hml]; rfl) (argsL := [(.ref rr), (.int nn), (.int (4 : Int32)), (.int (own_p4 nn v0 v1 v2 v3 v4))]) (rest := []) (lenOf pd_1 rfl) rfl (by show 2 * 0 + _ ≤ _; exact Nat.le_of_eq rfl) (hb hby at_499) (fun _ _ => ⟨rfl, e933, (by decide : 5 + 0 ≤ _), (by decide : 1040 + 0 ≤ _)⟩)
    dsimp only [Pt.U, Pt.locs, Pt.cells, Pt.slots] at X936 l936 y936 z936 st936 hQ936
    obtain rfl : k936 = 5 := y936
    obtain rfl : n936 = 1040 := z936
    obtain ⟨rfl, N936q, e936⟩ := hQ936
    have N936 : Fr n0 L936 := by rw [l936]; exact Fr.app N933 N936q
    have G937 : Go p e below A0 (T936.setTop (mkF m 502 #[.val (.int p0), .val (.int p1), .val (.int nn), .val (.int v0), .val (.int v1), .val (.int v2), .val (.int v3), .val (.int v4), .val (.ref b796), .val (.ref rr), .val (.int (own_f (0 : Int32) nn v0)), .val (.int (own_f (1 : Int32) nn v1)), .val (.int (own_f (2 : Int32) nn v2)), .val (.int (own_f (3 : Int32) nn v3)), .val (.int (own_f (4 : Int32) nn v4)), .val (.int (own_t (0 : Int32) nn v0)), .val (.int (own_t (1 : Int32) nn v1)), .val (.int (own_t (2 : Int32) nn v2)), .val (.int (own_t (3 : Int32) nn v3)), .val (.int (own_fal nn v0 v1 v2 v3 v4)), .val (.int (own_p0 nn v0 v1 v2 v3 v4)), .val (.int (own_p1 nn v0 v1 v2 v3 v4)), .val (.int (own_p2 nn v0 v1 v2 v3 v4)), .val (.int (own_p3 nn v0 v1 v2 v3 v4)), .val (.int (own_p4 nn v0 v1 v2 v3 v4))] [(.int (1 : Int32))])) := fun tq kq => G935 tq (st936 _ kq)
    have G938 : Go p e below A0 (T936.setTop (mkF m 510 #[.val (.int p0), .val (.int p1), .val (.int nn), .val (.int v0), .val (.int v1), .val (.int v2), .val (.int v3), .val (.int v4), .val (.ref b796), .val (.ref rr), .val (.int (own_f (0 : Int32) nn v0)), .val (.int (own_f (1 : Int32) nn v1)), .val (.int (own_f (2 : Int32) nn v2)), .val (.int (own_f (3 : Int32) nn v3)), .val (.int (own_f (4 : Int32) nn v4)), .val (.int (own_t (0 : Int32) nn v0)), .val (.int (own_t (1 : Int32) nn v1)), .val (.int (own_t (2 : Int32) nn v2)), .val (.int (own_t (3 : Int32) nn v3)), .val (.int (own_fal nn v0 v1 v2 v3 v4)), .val (.int (own_p0 nn v0 v1 v2 v3 v4)), .val (.int (own_p1 nn v0 v1 v2 v3 v4)), .val (.int (own_p2 nn v0 v1 v2 v3 v4)), .val (.int (own_p3 nn v0 v1 v2 v3 v4)), .val (.int (own_p4 nn v0 v1 v2 v3 v4))] [(.int (1 : Int32))])) := fun tq kq => G937 tq (by
      refine XS.ifNo X936.here hx rfl (hb hby at_502) rfl (by decide) ?_
      show Steps p.tables e below (T936.setTop (mkF m 505 #[.val (.int p0), .val (.int p1), .val (.int nn), .val (.int v0), .val (.int v1), .val (.int v2), .val (.int v3), .val (.int v4), .val (.ref b796), .val (.ref rr), .val (.int (own_f (0 : Int32) nn v0)), .val (.int (own_f (1 : Int32) nn v1)), .val (.int (own_f (2 : Int32) nn v2)), .val (.int (own_f (3 : Int32) nn v3)), .val (.int (own_f (4 : Int32) nn v4)), .val (.int (own_t (0 : Int32) nn v0)), .val (.int (own_t (1 : Int32) nn v1)), .val (.int (own_t (2 : Int32) nn v2)), .val (.int (own_t (3 : Int32) nn v3)), .val (.int (own_fal nn v0 v1 v2 v3 v4)), .val (.int (own_p0 nn v0 v1 v2 v3 v4)), .val (.int (own_p1 nn v0 v1 v2 v3 v4)), .val (.int (own_p2 nn v0 v1 v2 v3 v4)), .val (.int (own_p3 nn v0 v1 v2 v3 v4)), .val (.int (own_p4 nn v0 v1 v2 v3 v4))] [])) _
      refine XS.iconst X936.here hx rfl (hb hby at_505) ?_
      show Steps p.tables e below (T936.setTop (mkF m 506 #[.val (.int p0), .val (.int p1), .val (.int nn), .val (.int v0), .val (.int v1), .val (.int v2), .val (.int v3), .val (.int v4), .val (.ref b796), .val (.ref rr), .val (.int (own_f (0 : Int32) nn v0)), .val (.int (own_f (1 : Int32) nn v1)), .val (.int (own_f (2 : Int32) nn v2)), .val (.int (own_f (3 : Int32) nn v3)), .val (.int (own_f (4 : Int32) nn v4)), .val (.int (own_t (0 : Int32) nn v0)), .val (.int (own_t (1 : Int32) nn v1)), .val (.int (own_t (2 : Int32) nn v2)), .val (.int (own_t (3 : Int32) nn v3)), .val (.int (own_fal nn v0 v1 v2 v3 v4)), .val (.int (own_p0 nn v0 v1 v2 v3 v4)), .val (.int (own_p1 nn v0 v1 v2 v3 v4)), .val (.int (own_p2 nn v0 v1 v2 v3 v4)), .val (.int (own_p3 nn v0 v1 v2 v3 v4)), .val (.int (own_p4 nn v0 v1 v2 v3 v4))] [(.int (1 : Int32))])) _
      refine XS.goto X936.here hx rfl (pc0 := 506) (pc' := 510) rfl (hb hby at_506) (by decide) (by decide) ?_
      show Steps p.tables e below (T936.setTop (mkF m 510 #[.val (.int p0), .val (.int p1), .val (.int nn), .val (.int v0), .val (.int v1), .val (.int v2), .val (.int v3), .val (.int v4), .val (.ref b796), .val (.ref rr), .val (.int (own_f (0 : Int32) nn v0)), .val (.int (own_f (1 : Int32) nn v1)), .val (.int (own_f (2 : Int32) nn v2)), .val (.int (own_f (3 : Int32) nn v3)), .val (.int (own_f (4 : Int32) nn v4)), .val (.int (own_t (0 : Int32) nn v0)), .val (.int (own_t (1 : Int32) nn v1)), .val (.int (own_t (2 : Int32) nn v2)), .val (.int (own_t (3 : Int32) nn v3)), .val (.int (own_fal nn v0 v1 v2 v3 v4)), .val (.int (own_p0 nn v0 v1 v2 v3 v4)), .val (.int (own_p1 nn v0 v1 v2 v3 v4)), .val (.int (own_p2 nn v0 v1 v2 v3 v4)), .val (.int (own_p3 nn v0 v1 v2 v3 v4)), .val (.int (own_p4 nn v0 v1 v2 v3 v4))] [(.int (1 : Int32))])) _
      exact kq)
    obtain ⟨fs, hr, hrun, hended, hRW⟩ := X936.leaveW (s := s) (vm₁ := T799.vm) hS (by rw [e936]; exact uc) (v := some (.int (nar .boolean (1 : Int32)))) (fun h => by rw [Bd.returns] at h; cases h)
    refine ⟨_, _, (by rw [← hA0]; exact G938 _ (retN X936 hx (t := .boolean) Bd.returns (by simp) (hb hby at_510) hr)), hrun, hended, _, _, rfl, ?_, hRW.1, hRW.2.1, hRW.2.2.1, hRW.2.2.2.mono (by decide) (by decide)⟩
    exact ⟨rfl, N936⟩
  rcases own_six p0 with hk | hk | hk | hk | hk | hk
  · have G939 : Go p e below A0 (T802.setTop (mkF m 85 #[.val (.int p0), .val (.int p1), .val (.int (0 : Int32)), .val (.int v0), .val (.int v1), .val (.int v2), .val (.int v3), .val (.int v4), .val (.ref b796), .unset, .unset, .unset, .unset, .unset, .unset, .unset, .unset, .unset, .unset, .unset, .unset, .unset, .unset, .unset, .unset] [])) := by
      have q := G809
      rw [hk] at q
      exact q
    have G940 : Go p e below A0 (T802.setTop (mkF m 145 #[.val (.int p0), .val (.int p1), .val (.int (0 : Int32)), .val (.int v0), .val (.int v1), .val (.int v2), .val (.int v3), .val (.int v4), .val (.ref b796), .unset, .unset, .unset, .unset, .unset, .unset, .unset, .unset, .unset, .unset, .unset, .unset, .unset, .unset, .unset, .unset] [(.ref b796)])) := fun tq kq => G939 tq (by
      refine XS.iloadN X802.here hx rfl (hb hby at_85) rfl ?_
      show Steps p.tables e below (T802.setTop (mkF m 86 #[.val (.int p0), .val (.int p1), .val (.int (0 : Int32)), .val (.int v0), .val (.int v1), .val (.int v2), .val (.int v3), .val (.int v4), .val (.ref b796), .unset, .unset, .unset, .unset, .unset, .unset, .unset, .unset, .unset, .unset, .unset, .unset, .unset, .unset, .unset, .unset] [(.int (0 : Int32))])) _
      refine XS.ifYes X802.here hx rfl (pc0 := 86) (pc' := 95) rfl (hb hby at_86) rfl (by decide) (by decide) (by decide) ?_
      show Steps p.tables e below (T802.setTop (mkF m 95 #[.val (.int p0), .val (.int p1), .val (.int (0 : Int32)), .val (.int v0), .val (.int v1), .val (.int v2), .val (.int v3), .val (.int v4), .val (.ref b796), .unset, .unset, .unset, .unset, .unset, .unset, .unset, .unset, .unset, .unset, .unset, .unset, .unset, .unset, .unset, .unset] [])) _
      refine XS.iloadN X802.here hx rfl (hb hby at_95) rfl ?_
      show Steps p.tables e below (T802.setTop (mkF m 96 #[.val (.int p0), .val (.int p1), .val (.int (0 : Int32)), .val (.int v0), .val (.int v1), .val (.int v2), .val (.int v3), .val (.int v4), .val (.ref b796), .unset, .unset, .unset, .unset, .unset, .unset, .unset, .unset, .unset, .unset, .unset, .unset, .unset, .unset, .unset, .unset] [(.int (0 : Int32))])) _
      refine XS.iconst X802.here hx rfl (hb hby at_96) ?_
      show Steps p.tables e below (T802.setTop (mkF m 97 #[.val (.int p0), .val (.int p1), .val (.int (0 : Int32)), .val (.int v0), .val (.int v1), .val (.int v2), .val (.int v3), .val (.int v4), .val (.ref b796), .unset, .unset, .unset, .unset, .unset, .unset, .unset, .unset, .unset, .unset, .unset, .unset, .unset, .unset, .unset, .unset] [(.int (1 : Int32)), (.int (0 : Int32))])) _
      refine XS.icmpYes X802.here hx rfl (pc0 := 97) (pc' := 107) rfl (hb hby at_97) rfl (by decide) (by decide) (by decide) ?_
      show Steps p.tables e below (T802.setTop (mkF m 107 #[.val (.int p0), .val (.int p1), .val (.int (0 : Int32)), .val (.int v0), .val (.int v1), .val (.int v2), .val (.int v3), .val (.int v4), .val (.ref b796), .unset, .unset, .unset, .unset, .unset, .unset, .unset, .unset, .unset, .unset, .unset, .unset, .unset, .unset, .unset, .unset] [])) _
      refine XS.iloadN X802.here hx rfl (hb hby at_107) rfl ?_
      show Steps p.tables e below (T802.setTop (mkF m 108 #[.val (.int p0), .val (.int p1), .val (.int (0 : Int32)), .val (.int v0), .val (.int v1), .val (.int v2), .val (.int v3), .val (.int v4), .val (.ref b796), .unset, .unset, .unset, .unset, .unset, .unset, .unset, .unset, .unset, .unset, .unset, .unset, .unset, .unset, .unset, .unset] [(.int (0 : Int32))])) _
      refine XS.iconst X802.here hx rfl (hb hby at_108) ?_
      show Steps p.tables e below (T802.setTop (mkF m 109 #[.val (.int p0), .val (.int p1), .val (.int (0 : Int32)), .val (.int v0), .val (.int v1), .val (.int v2), .val (.int v3), .val (.int v4), .val (.ref b796), .unset, .unset, .unset, .unset, .unset, .unset, .unset, .unset, .unset, .unset, .unset, .unset, .unset, .unset, .unset, .unset] [(.int (2 : Int32)), (.int (0 : Int32))])) _
      refine XS.icmpYes X802.here hx rfl (pc0 := 109) (pc' := 119) rfl (hb hby at_109) rfl (by decide) (by decide) (by decide) ?_
      show Steps p.tables e below (T802.setTop (mkF m 119 #[.val (.int p0), .val (.int p1), .val (.int (0 : Int32)), .val (.int v0), .val (.int v1), .val (.int v2), .val (.int v3), .val (.int v4), .val (.ref b796), .unset, .unset, .unset, .unset, .unset, .unset, .unset, .unset, .unset, .unset, .unset, .unset, .unset, .unset, .unset, .unset] [])) _
      refine XS.iloadN X802.here hx rfl (hb hby at_119) rfl ?_
      show Steps p.tables e below (T802.setTop (mkF m 120 #[.val (.int p0), .val (.int p1), .val (.int (0 : Int32)), .val (.int v0), .val (.int v1), .val (.int v2), .val (.int v3), .val (.int v4), .val (.ref b796), .unset, .unset, .unset, .unset, .unset, .unset, .unset, .unset, .unset, .unset, .unset, .unset, .unset, .unset, .unset, .unset] [(.int (0 : Int32))])) _
      refine XS.iconst X802.here hx rfl (hb hby at_120) ?_
      show Steps p.tables e below (T802.setTop (mkF m 121 #[.val (.int p0), .val (.int p1), .val (.int (0 : Int32)), .val (.int v0), .val (.int v1), .val (.int v2), .val (.int v3), .val (.int v4), .val (.ref b796), .unset, .unset, .unset, .unset, .unset, .unset, .unset, .unset, .unset, .unset, .unset, .unset, .unset, .unset, .unset, .unset] [(.int (3 : Int32)), (.int (0 : Int32))])) _
      refine XS.icmpYes X802.here hx rfl (pc0 := 121) (pc' := 131) rfl (hb hby at_121) rfl (by decide) (by decide) (by decide) ?_
      show Steps p.tables e below (T802.setTop (mkF m 131 #[.val (.int p0), .val (.int p1), .val (.int (0 : Int32)), .val (.int v0), .val (.int v1), .val (.int v2), .val (.int v3), .val (.int v4), .val (.ref b796), .unset, .unset, .unset, .unset, .unset, .unset, .unset, .unset, .unset, .unset, .unset, .unset, .unset, .unset, .unset, .unset] [])) _
      refine XS.iloadN X802.here hx rfl (hb hby at_131) rfl ?_
      show Steps p.tables e below (T802.setTop (mkF m 132 #[.val (.int p0), .val (.int p1), .val (.int (0 : Int32)), .val (.int v0), .val (.int v1), .val (.int v2), .val (.int v3), .val (.int v4), .val (.ref b796), .unset, .unset, .unset, .unset, .unset, .unset, .unset, .unset, .unset, .unset, .unset, .unset, .unset, .unset, .unset, .unset] [(.int (0 : Int32))])) _
      refine XS.iconst X802.here hx rfl (hb hby at_132) ?_
      show Steps p.tables e below (T802.setTop (mkF m 133 #[.val (.int p0), .val (.int p1), .val (.int (0 : Int32)), .val (.int v0), .val (.int v1), .val (.int v2), .val (.int v3), .val (.int v4), .val (.ref b796), .unset, .unset, .unset, .unset, .unset, .unset, .unset, .unset, .unset, .unset, .unset, .unset, .unset, .unset, .unset, .unset] [(.int (4 : Int32)), (.int (0 : Int32))])) _
      refine XS.icmpYes X802.here hx rfl (pc0 := 133) (pc' := 143) rfl (hb hby at_133) rfl (by decide) (by decide) (by decide) ?_
      show Steps p.tables e below (T802.setTop (mkF m 143 #[.val (.int p0), .val (.int p1), .val (.int (0 : Int32)), .val (.int v0), .val (.int v1), .val (.int v2), .val (.int v3), .val (.int v4), .val (.ref b796), .unset, .unset, .unset, .unset, .unset, .unset, .unset, .unset, .unset, .unset, .unset, .unset, .unset, .unset, .unset, .unset] [])) _
      refine XS.aload X802.here hx rfl (hb hby at_143) rfl rfl ?_
      show Steps p.tables e below (T802.setTop (mkF m 145 #[.val (.int p0), .val (.int p1), .val (.int (0 : Int32)), .val (.int v0), .val (.int v1), .val (.int v2), .val (.int v3), .val (.int v4), .val (.ref b796), .unset, .unset, .unset, .unset, .unset, .unset, .unset, .unset, .unset, .unset, .unset, .unset, .unset, .unset, .unset, .unset] [(.ref b796)])) _
      exact kq)
    have f942 := (Nat.le_trans f803 K802.1)
    have f943 := (f804.keep K802)
    obtain ⟨cq941, kq941, q941a, q941b, q941c⟩ := isOf hZ rfl f943
    obtain ⟨_, _, ⟨T941, L941, k941, n941⟩, -, X941, ⟨Lc941, hQ941, l941, y941, z941⟩, st941⟩ := X802.virtualBack hx (y := (⟨"com/example/tube2/tube2/trace/BooleanSignal", "order", "()[I"⟩ : MethodName)) (z := (⟨"com/example/tube2/tube2/trace/BooleanSignal", "order", "()[I"⟩ : MethodName)) hown (mvT hZ (hw _ (List.mem_of_getElem? (i := 23) rfl))) (mvT hZ (hw _ (List.mem_of_getElem? (i := 24) rfl))) (notFace_of_selects (args := #[]) (mvT hZ (hw _ (List.mem_of_getElem? (i := 26) rfl)))) (mvT hZ (hw _ (List.mem_of_getElem? (i := 26) rfl))) (mvT hZ (hw _ (List.mem_of_getElem? (i := 25) rfl))) (by decide) (backOf (W := 0) (rmO0 l Z a0 hw [] b796 vb802 kb802  T802.heap n0 f942 F1802 F2802 A802 ) hZ (hw _ (List.mem_of_getElem? (i := 27) rfl)) (hw _ (List.mem_of_getElem? (i := 3) rfl)) (by decide) (by decide)) q941a q941c (g := (mkF m 145 #[.val (.int p0), .val (.int p1), .val (.int (0 : Int32)), .val (.int v0), .val (.int v1), .val (.int v2), .val (.int v3), .val (.int v4), .val (.ref b796), .unset, .unset, .unset, .unset, .unset, .unset, .unset, .unset, .unset, .unset, .unset, .unset, .unset, .unset, .unset, .unset] [(.ref b796)])) rfl (by rw [hml]; rfl) (Steps.refl _) (argsL := []) (rest := []) (lenOf pd_2 rfl) rfl (by show 2 * 0 + _ ≤ _; exact Nat.le_of_eq rfl) (hb hby at_145) (fun _ _ => ⟨rfl, rfl, (by decide : 4 + 1 ≤ _), (by decide : 1035 + 5 ≤ _)⟩)
    dsimp only [Pt.U, Pt.locs, Pt.cells, Pt.slots] at X941 l941 y941 z941 st941 hQ941
    obtain rfl : k941 = 5 := y941
    obtain rfl : n941 = 1040 := z941
    obtain ⟨r941, kr941, rfl, N941q, K941, A941⟩ := hQ941
    have N941 : Fr n0 L941 := by rw [l941]; exact Fr.app N802 N941q
    have G944 : Go p e below A0 (T941.setTop (mkF m 148 #[.val (.int p0), .val (.int p1), .val (.int (0 : Int32)), .val (.int v0), .val (.int v1), .val (.int v2), .val (.int v3), .val (.int v4), .val (.ref b796), .unset, .unset, .unset, .unset, .unset, .unset, .unset, .unset, .unset, .unset, .unset, .unset, .unset, .unset, .unset, .unset] [(.ref r941)])) := fun tq kq => G940 tq (st941.trans kq)
    have G945 : Go p e below A0 (T941.setTop (mkF m 150 #[.val (.int p0), .val (.int p1), .val (.int (0 : Int32)), .val (.int v0), .val (.int v1), .val (.int v2), .val (.int v3), .val (.int v4), .val (.ref b796), .val (.ref r941), .unset, .unset, .unset, .unset, .unset, .unset, .unset, .unset, .unset, .unset, .unset, .unset, .unset, .unset, .unset] [])) := fun tq kq => G944 tq (by
      refine XS.astore X941.here hx rfl (hb hby at_148) rfl rfl (l' := #[.val (.int p0), .val (.int p1), .val (.int (0 : Int32)), .val (.int v0), .val (.int v1), .val (.int v2), .val (.int v3), .val (.int v4), .val (.ref b796), .val (.ref r941), .unset, .unset, .unset, .unset, .unset, .unset, .unset, .unset, .unset, .unset, .unset, .unset, .unset, .unset, .unset]) rfl ?_
      show Steps p.tables e below (T941.setTop (mkF m 150 #[.val (.int p0), .val (.int p1), .val (.int (0 : Int32)), .val (.int v0), .val (.int v1), .val (.int v2), .val (.int v3), .val (.int v4), .val (.ref b796), .val (.ref r941), .unset, .unset, .unset, .unset, .unset, .unset, .unset, .unset, .unset, .unset, .unset, .unset, .unset, .unset, .unset] [])) _
      exact kq)
    have f946 := (Nat.le_trans f942 K941.1)
    have f947 := (Nat.le_trans (Nat.le_trans hk799 K802.1) K941.1)
    exact cont (0 : Int32) (Or.inl rfl) _ _ _ _ _ X941 rfl N941 f946 f947 (show Af Z _ r941 kr941 .int (0 : Int32) (own_G (0 : Int32) v0 v1 v2 v3 v4) from A941) G945
  · have G948 : Go p e below A0 (T802.setTop (mkF m 85 #[.val (.int p0), .val (.int p1), .val (.int (1 : Int32)), .val (.int v0), .val (.int v1), .val (.int v2), .val (.int v3), .val (.int v4), .val (.ref b796), .unset, .unset, .unset, .unset, .unset, .unset, .unset, .unset, .unset, .unset, .unset, .unset, .unset, .unset, .unset, .unset] [])) := by
      have q := G809
      rw [hk] at q
      exact q
    have G949 : Go p e below A0 (T802.setTop (mkF m 92 #[.val (.int p0), .val (.int p1), .val (.int (1 : Int32)), .val (.int v0), .val (.int v1), .val (.int v2), .val (.int v3), .val (.int v4), .val (.ref b796), .unset, .unset, .unset, .unset, .unset, .unset, .unset, .unset, .unset, .unset, .unset, .unset, .unset, .unset, .unset, .unset] [(.int v0), (.ref b796)])) := fun tq kq => G948 tq (by
      refine XS.iloadN X802.here hx rfl (hb hby at_85) rfl ?_
      show Steps p.tables e below (T802.setTop (mkF m 86 #[.val (.int p0), .val (.int p1), .val (.int (1 : Int32)), .val (.int v0), .val (.int v1), .val (.int v2), .val (.int v3), .val (.int v4), .val (.ref b796), .unset, .unset, .unset, .unset, .unset, .unset, .unset, .unset, .unset, .unset, .unset, .unset, .unset, .unset, .unset, .unset] [(.int (1 : Int32))])) _
      refine XS.ifNo X802.here hx rfl (hb hby at_86) rfl (by decide) ?_
      show Steps p.tables e below (T802.setTop (mkF m 89 #[.val (.int p0), .val (.int p1), .val (.int (1 : Int32)), .val (.int v0), .val (.int v1), .val (.int v2), .val (.int v3), .val (.int v4), .val (.ref b796), .unset, .unset, .unset, .unset, .unset, .unset, .unset, .unset, .unset, .unset, .unset, .unset, .unset, .unset, .unset, .unset] [])) _
      refine XS.aload X802.here hx rfl (hb hby at_89) rfl rfl ?_
      show Steps p.tables e below (T802.setTop (mkF m 91 #[.val (.int p0), .val (.int p1), .val (.int (1 : Int32)), .val (.int v0), .val (.int v1), .val (.int v2), .val (.int v3), .val (.int v4), .val (.ref b796), .unset, .unset, .unset, .unset, .unset, .unset, .unset, .unset, .unset, .unset, .unset, .unset, .unset, .unset, .unset, .unset] [(.ref b796)])) _
      refine XS.iloadN X802.here hx rfl (hb hby at_91) rfl ?_
      show Steps p.tables e below (T802.setTop (mkF m 92 #[.val (.int p0), .val (.int p1), .val (.int (1 : Int32)), .val (.int v0), .val (.int v1), .val (.int v2), .val (.int v3), .val (.int v4), .val (.ref b796), .unset, .unset, .unset, .unset, .unset, .unset, .unset, .unset, .unset, .unset, .unset, .unset, .unset, .unset, .unset, .unset] [(.int v0), (.ref b796)])) _
      exact kq)
    have f951 := (Nat.le_trans f803 K802.1)
    have f952 := (f804.keep K802)
    obtain ⟨cq950, kq950, q950a, q950b, q950c⟩ := isOf hZ rfl f952
    obtain ⟨_, _, ⟨T950, L950, k950, n950⟩, -, X950, ⟨Lc950, hQ950, l950, y950, z950⟩, st950⟩ := X802.virtualBack hx (y := (⟨"com/example/tube2/tube2/trace/BooleanSignal", "add", "(Z)V"⟩ : MethodName)) (z := (⟨"com/example/tube2/tube2/trace/BooleanSignal", "add", "(Z)V"⟩ : MethodName)) hown (mvT hZ (hw _ (List.mem_of_getElem? (i := 35) rfl))) (mvT hZ (hw _ (List.mem_of_getElem? (i := 36) rfl))) (notFace_of_selects (args := #[]) (mvT hZ (hw _ (List.mem_of_getElem? (i := 38) rfl)))) (mvT hZ (hw _ (List.mem_of_getElem? (i := 38) rfl))) (mvT hZ (hw _ (List.mem_of_getElem? (i := 37) rfl))) (by decide) (backOf (W := 0) (rmA0 l Z a0 hw [] b796 vb802 kb802 v0 T802.heap n0 f951 f952 F1802 F2802 A802 g_b796 gb802 nab802 hb0) hZ (hw _ (List.mem_of_getElem? (i := 39) rfl)) (hw _ (List.mem_of_getElem? (i := 3) rfl)) (by decide) (by decide)) q950a q950c (g := (mkF m 92 #[.val (.int p0), .val (.int p1), .val (.int (1 : Int32)), .val (.int v0), .val (.int v1), .val (.int v2), .val (.int v3), .val (.int v4), .val (.ref b796), .unset, .unset, .unset, .unset, .unset, .unset, .unset, .unset, .unset, .unset, .unset, .unset, .unset, .unset, .unset, .unset] [(.int v0), (.ref b796)])) rfl (by rw [hml]; rfl) (Steps.refl _) (argsL := [(.int v0)]) (rest := []) (lenOf pd_3 rfl) rfl (by show 2 * 0 + _ ≤ _; exact Nat.le_of_eq rfl) (hb hby at_92) (fun _ _ => ⟨rfl, rfl, (by decide : 4 + 0 ≤ _), (by decide : 1035 + 0 ≤ _)⟩)
    dsimp only [Pt.U, Pt.locs, Pt.cells, Pt.slots] at X950 l950 y950 z950 st950 hQ950
    obtain rfl : k950 = 4 := y950
    obtain rfl : n950 = 1035 := z950
    obtain ⟨rfl, N950q, K950, F1950, F2950, A950⟩ := hQ950
    have N950 : Fr n0 L950 := by rw [l950]; exact Fr.app N802 N950q
    have G953 : Go p e below A0 (T950.setTop (mkF m 95 #[.val (.int p0), .val (.int p1), .val (.int (1 : Int32)), .val (.int v0), .val (.int v1), .val (.int v2), .val (.int v3), .val (.int v4), .val (.ref b796), .unset, .unset, .unset, .unset, .unset, .unset, .unset, .unset, .unset, .unset, .unset, .unset, .unset, .unset, .unset, .unset] [])) := fun tq kq => G949 tq (st950.trans kq)
    have G954 : Go p e below A0 (T950.setTop (mkF m 145 #[.val (.int p0), .val (.int p1), .val (.int (1 : Int32)), .val (.int v0), .val (.int v1), .val (.int v2), .val (.int v3), .val (.int v4), .val (.ref b796), .unset, .unset, .unset, .unset, .unset, .unset, .unset, .unset, .unset, .unset, .unset, .unset, .unset, .unset, .unset, .unset] [(.ref b796)])) := fun tq kq => G953 tq (by
      refine XS.iloadN X950.here hx rfl (hb hby at_95) rfl ?_
      show Steps p.tables e below (T950.setTop (mkF m 96 #[.val (.int p0), .val (.int p1), .val (.int (1 : Int32)), .val (.int v0), .val (.int v1), .val (.int v2), .val (.int v3), .val (.int v4), .val (.ref b796), .unset, .unset, .unset, .unset, .unset, .unset, .unset, .unset, .unset, .unset, .unset, .unset, .unset, .unset, .unset, .unset] [(.int (1 : Int32))])) _
      refine XS.iconst X950.here hx rfl (hb hby at_96) ?_
      show Steps p.tables e below (T950.setTop (mkF m 97 #[.val (.int p0), .val (.int p1), .val (.int (1 : Int32)), .val (.int v0), .val (.int v1), .val (.int v2), .val (.int v3), .val (.int v4), .val (.ref b796), .unset, .unset, .unset, .unset, .unset, .unset, .unset, .unset, .unset, .unset, .unset, .unset, .unset, .unset, .unset, .unset] [(.int (1 : Int32)), (.int (1 : Int32))])) _
      refine XS.icmpYes X950.here hx rfl (pc0 := 97) (pc' := 107) rfl (hb hby at_97) rfl (by decide) (by decide) (by decide) ?_
      show Steps p.tables e below (T950.setTop (mkF m 107 #[.val (.int p0), .val (.int p1), .val (.int (1 : Int32)), .val (.int v0), .val (.int v1), .val (.int v2), .val (.int v3), .val (.int v4), .val (.ref b796), .unset, .unset, .unset, .unset, .unset, .unset, .unset, .unset, .unset, .unset, .unset, .unset, .unset, .unset, .unset, .unset] [])) _
      refine XS.iloadN X950.here hx rfl (hb hby at_107) rfl ?_
      show Steps p.tables e below (T950.setTop (mkF m 108 #[.val (.int p0), .val (.int p1), .val (.int (1 : Int32)), .val (.int v0), .val (.int v1), .val (.int v2), .val (.int v3), .val (.int v4), .val (.ref b796), .unset, .unset, .unset, .unset, .unset, .unset, .unset, .unset, .unset, .unset, .unset, .unset, .unset, .unset, .unset, .unset] [(.int (1 : Int32))])) _
      refine XS.iconst X950.here hx rfl (hb hby at_108) ?_
      show Steps p.tables e below (T950.setTop (mkF m 109 #[.val (.int p0), .val (.int p1), .val (.int (1 : Int32)), .val (.int v0), .val (.int v1), .val (.int v2), .val (.int v3), .val (.int v4), .val (.ref b796), .unset, .unset, .unset, .unset, .unset, .unset, .unset, .unset, .unset, .unset, .unset, .unset, .unset, .unset, .unset, .unset] [(.int (2 : Int32)), (.int (1 : Int32))])) _
      refine XS.icmpYes X950.here hx rfl (pc0 := 109) (pc' := 119) rfl (hb hby at_109) rfl (by decide) (by decide) (by decide) ?_
      show Steps p.tables e below (T950.setTop (mkF m 119 #[.val (.int p0), .val (.int p1), .val (.int (1 : Int32)), .val (.int v0), .val (.int v1), .val (.int v2), .val (.int v3), .val (.int v4), .val (.ref b796), .unset, .unset, .unset, .unset, .unset, .unset, .unset, .unset, .unset, .unset, .unset, .unset, .unset, .unset, .unset, .unset] [])) _
      refine XS.iloadN X950.here hx rfl (hb hby at_119) rfl ?_
      show Steps p.tables e below (T950.setTop (mkF m 120 #[.val (.int p0), .val (.int p1), .val (.int (1 : Int32)), .val (.int v0), .val (.int v1), .val (.int v2), .val (.int v3), .val (.int v4), .val (.ref b796), .unset, .unset, .unset, .unset, .unset, .unset, .unset, .unset, .unset, .unset, .unset, .unset, .unset, .unset, .unset, .unset] [(.int (1 : Int32))])) _
      refine XS.iconst X950.here hx rfl (hb hby at_120) ?_
      show Steps p.tables e below (T950.setTop (mkF m 121 #[.val (.int p0), .val (.int p1), .val (.int (1 : Int32)), .val (.int v0), .val (.int v1), .val (.int v2), .val (.int v3), .val (.int v4), .val (.ref b796), .unset, .unset, .unset, .unset, .unset, .unset, .unset, .unset, .unset, .unset, .unset, .unset, .unset, .unset, .unset, .unset] [(.int (3 : Int32)), (.int (1 : Int32))])) _
      refine XS.icmpYes X950.here hx rfl (pc0 := 121) (pc' := 131) rfl (hb hby at_121) rfl (by decide) (by decide) (by decide) ?_
      show Steps p.tables e below (T950.setTop (mkF m 131 #[.val (.int p0), .val (.int p1), .val (.int (1 : Int32)), .val (.int v0), .val (.int v1), .val (.int v2), .val (.int v3), .val (.int v4), .val (.ref b796), .unset, .unset, .unset, .unset, .unset, .unset, .unset, .unset, .unset, .unset, .unset, .unset, .unset, .unset, .unset, .unset] [])) _
      refine XS.iloadN X950.here hx rfl (hb hby at_131) rfl ?_
      show Steps p.tables e below (T950.setTop (mkF m 132 #[.val (.int p0), .val (.int p1), .val (.int (1 : Int32)), .val (.int v0), .val (.int v1), .val (.int v2), .val (.int v3), .val (.int v4), .val (.ref b796), .unset, .unset, .unset, .unset, .unset, .unset, .unset, .unset, .unset, .unset, .unset, .unset, .unset, .unset, .unset, .unset] [(.int (1 : Int32))])) _
      refine XS.iconst X950.here hx rfl (hb hby at_132) ?_
      show Steps p.tables e below (T950.setTop (mkF m 133 #[.val (.int p0), .val (.int p1), .val (.int (1 : Int32)), .val (.int v0), .val (.int v1), .val (.int v2), .val (.int v3), .val (.int v4), .val (.ref b796), .unset, .unset, .unset, .unset, .unset, .unset, .unset, .unset, .unset, .unset, .unset, .unset, .unset, .unset, .unset, .unset] [(.int (4 : Int32)), (.int (1 : Int32))])) _
      refine XS.icmpYes X950.here hx rfl (pc0 := 133) (pc' := 143) rfl (hb hby at_133) rfl (by decide) (by decide) (by decide) ?_
      show Steps p.tables e below (T950.setTop (mkF m 143 #[.val (.int p0), .val (.int p1), .val (.int (1 : Int32)), .val (.int v0), .val (.int v1), .val (.int v2), .val (.int v3), .val (.int v4), .val (.ref b796), .unset, .unset, .unset, .unset, .unset, .unset, .unset, .unset, .unset, .unset, .unset, .unset, .unset, .unset, .unset, .unset] [])) _
      refine XS.aload X950.here hx rfl (hb hby at_143) rfl rfl ?_
      show Steps p.tables e below (T950.setTop (mkF m 145 #[.val (.int p0), .val (.int p1), .val (.int (1 : Int32)), .val (.int v0), .val (.int v1), .val (.int v2), .val (.int v3), .val (.int v4), .val (.ref b796), .unset, .unset, .unset, .unset, .unset, .unset, .unset, .unset, .unset, .unset, .unset, .unset, .unset, .unset, .unset, .unset] [(.ref b796)])) _
      exact kq)
    have f956 := (Nat.le_trans f951 K950.1)
    have f957 := (f952.keep K950)
    obtain ⟨cq955, kq955, q955a, q955b, q955c⟩ := isOf hZ rfl f957
    obtain ⟨_, _, ⟨T955, L955, k955, n955⟩, -, X955, ⟨Lc955, hQ955, l955, y955, z955⟩, st955⟩ := X950.virtualBack hx (y := (⟨"com/example/tube2/tube2/trace/BooleanSignal", "order", "()[I"⟩ : MethodName)) (z := (⟨"com/example/tube2/tube2/trace/BooleanSignal", "order", "()[I"⟩ : MethodName)) hown (mvT hZ (hw _ (List.mem_of_getElem? (i := 23) rfl))) (mvT hZ (hw _ (List.mem_of_getElem? (i := 24) rfl))) (notFace_of_selects (args := #[]) (mvT hZ (hw _ (List.mem_of_getElem? (i := 26) rfl)))) (mvT hZ (hw _ (List.mem_of_getElem? (i := 26) rfl))) (mvT hZ (hw _ (List.mem_of_getElem? (i := 25) rfl))) (by decide) (backOf (W := 0) (rmO1 l Z a0 hw [] b796 vb802 kb802 v0 T950.heap n0 f956 F1950 F2950 A950 hb0) hZ (hw _ (List.mem_of_getElem? (i := 27) rfl)) (hw _ (List.mem_of_getElem? (i := 3) rfl)) (by decide) (by decide)) q955a q955c (g := (mkF m 145 #[.val (.int p0), .val (.int p1), .val (.int (1 : Int32)), .val (.int v0), .val (.int v1), .val (.int v2), .val (.int v3), .val (.int v4), .val (.ref b796), .unset, .unset, .unset, .unset, .unset, .unset, .unset, .unset, .unset, .unset, .unset, .unset, .unset, .unset, .unset, .unset] [(.ref b796)])) rfl (by rw [hml]; rfl) (Steps.refl _) (argsL := []) (rest := []) (lenOf pd_2 rfl) rfl (by show 2 * 0 + _ ≤ _; exact Nat.le_of_eq rfl) (hb hby at_145) (fun _ _ => ⟨rfl, rfl, (by decide : 4 + 1 ≤ _), (by decide : 1035 + 5 ≤ _)⟩)
    dsimp only [Pt.U, Pt.locs, Pt.cells, Pt.slots] at X955 l955 y955 z955 st955 hQ955
    obtain rfl : k955 = 5 := y955
    obtain rfl : n955 = 1040 := z955
    obtain ⟨r955, kr955, rfl, N955q, K955, A955⟩ := hQ955
    have N955 : Fr n0 L955 := by rw [l955]; exact Fr.app N950 N955q
    have G958 : Go p e below A0 (T955.setTop (mkF m 148 #[.val (.int p0), .val (.int p1), .val (.int (1 : Int32)), .val (.int v0), .val (.int v1), .val (.int v2), .val (.int v3), .val (.int v4), .val (.ref b796), .unset, .unset, .unset, .unset, .unset, .unset, .unset, .unset, .unset, .unset, .unset, .unset, .unset, .unset, .unset, .unset] [(.ref r955)])) := fun tq kq => G954 tq (st955.trans kq)
    have G959 : Go p e below A0 (T955.setTop (mkF m 150 #[.val (.int p0), .val (.int p1), .val (.int (1 : Int32)), .val (.int v0), .val (.int v1), .val (.int v2), .val (.int v3), .val (.int v4), .val (.ref b796), .val (.ref r955), .unset, .unset, .unset, .unset, .unset, .unset, .unset, .unset, .unset, .unset, .unset, .unset, .unset, .unset, .unset] [])) := fun tq kq => G958 tq (by
      refine XS.astore X955.here hx rfl (hb hby at_148) rfl rfl (l' := #[.val (.int p0), .val (.int p1), .val (.int (1 : Int32)), .val (.int v0), .val (.int v1), .val (.int v2), .val (.int v3), .val (.int v4), .val (.ref b796), .val (.ref r955), .unset, .unset, .unset, .unset, .unset, .unset, .unset, .unset, .unset, .unset, .unset, .unset, .unset, .unset, .unset]) rfl ?_
      show Steps p.tables e below (T955.setTop (mkF m 150 #[.val (.int p0), .val (.int p1), .val (.int (1 : Int32)), .val (.int v0), .val (.int v1), .val (.int v2), .val (.int v3), .val (.int v4), .val (.ref b796), .val (.ref r955), .unset, .unset, .unset, .unset, .unset, .unset, .unset, .unset, .unset, .unset, .unset, .unset, .unset, .unset, .unset] [])) _
      exact kq)
    have f960 := (Nat.le_trans f956 K955.1)
    have f961 := (Nat.le_trans (Nat.le_trans (Nat.le_trans hk799 K802.1) K950.1) K955.1)
    exact cont (1 : Int32) (Or.inr (Or.inl rfl)) _ _ _ _ _ X955 rfl N955 f960 f961 (show Af Z _ r955 kr955 .int (1 : Int32) (own_G (1 : Int32) v0 v1 v2 v3 v4) from A955) G959
  · have G962 : Go p e below A0 (T802.setTop (mkF m 85 #[.val (.int p0), .val (.int p1), .val (.int (2 : Int32)), .val (.int v0), .val (.int v1), .val (.int v2), .val (.int v3), .val (.int v4), .val (.ref b796), .unset, .unset, .unset, .unset, .unset, .unset, .unset, .unset, .unset, .unset, .unset, .unset, .unset, .unset, .unset, .unset] [])) := by
      have q := G809
      rw [hk] at q
      exact q
    have G963 : Go p e below A0 (T802.setTop (mkF m 92 #[.val (.int p0), .val (.int p1), .val (.int (2 : Int32)), .val (.int v0), .val (.int v1), .val (.int v2), .val (.int v3), .val (.int v4), .val (.ref b796), .unset, .unset, .unset, .unset, .unset, .unset, .unset, .unset, .unset, .unset, .unset, .unset, .unset, .unset, .unset, .unset] [(.int v0), (.ref b796)])) := fun tq kq => G962 tq (by
      refine XS.iloadN X802.here hx rfl (hb hby at_85) rfl ?_
      show Steps p.tables e below (T802.setTop (mkF m 86 #[.val (.int p0), .val (.int p1), .val (.int (2 : Int32)), .val (.int v0), .val (.int v1), .val (.int v2), .val (.int v3), .val (.int v4), .val (.ref b796), .unset, .unset, .unset, .unset, .unset, .unset, .unset, .unset, .unset, .unset, .unset, .unset, .unset, .unset, .unset, .unset] [(.int (2 : Int32))])) _
      refine XS.ifNo X802.here hx rfl (hb hby at_86) rfl (by decide) ?_
      show Steps p.tables e below (T802.setTop (mkF m 89 #[.val (.int p0), .val (.int p1), .val (.int (2 : Int32)), .val (.int v0), .val (.int v1), .val (.int v2), .val (.int v3), .val (.int v4), .val (.ref b796), .unset, .unset, .unset, .unset, .unset, .unset, .unset, .unset, .unset, .unset, .unset, .unset, .unset, .unset, .unset, .unset] [])) _
      refine XS.aload X802.here hx rfl (hb hby at_89) rfl rfl ?_
      show Steps p.tables e below (T802.setTop (mkF m 91 #[.val (.int p0), .val (.int p1), .val (.int (2 : Int32)), .val (.int v0), .val (.int v1), .val (.int v2), .val (.int v3), .val (.int v4), .val (.ref b796), .unset, .unset, .unset, .unset, .unset, .unset, .unset, .unset, .unset, .unset, .unset, .unset, .unset, .unset, .unset, .unset] [(.ref b796)])) _
      refine XS.iloadN X802.here hx rfl (hb hby at_91) rfl ?_
      show Steps p.tables e below (T802.setTop (mkF m 92 #[.val (.int p0), .val (.int p1), .val (.int (2 : Int32)), .val (.int v0), .val (.int v1), .val (.int v2), .val (.int v3), .val (.int v4), .val (.ref b796), .unset, .unset, .unset, .unset, .unset, .unset, .unset, .unset, .unset, .unset, .unset, .unset, .unset, .unset, .unset, .unset] [(.int v0), (.ref b796)])) _
      exact kq)
    have f965 := (Nat.le_trans f803 K802.1)
    have f966 := (f804.keep K802)
    obtain ⟨cq964, kq964, q964a, q964b, q964c⟩ := isOf hZ rfl f966
    obtain ⟨_, _, ⟨T964, L964, k964, n964⟩, -, X964, ⟨Lc964, hQ964, l964, y964, z964⟩, st964⟩ := X802.virtualBack hx (y := (⟨"com/example/tube2/tube2/trace/BooleanSignal", "add", "(Z)V"⟩ : MethodName)) (z := (⟨"com/example/tube2/tube2/trace/BooleanSignal", "add", "(Z)V"⟩ : MethodName)) hown (mvT hZ (hw _ (List.mem_of_getElem? (i := 35) rfl))) (mvT hZ (hw _ (List.mem_of_getElem? (i := 36) rfl))) (notFace_of_selects (args := #[]) (mvT hZ (hw _ (List.mem_of_getElem? (i := 38) rfl)))) (mvT hZ (hw _ (List.mem_of_getElem? (i := 38) rfl))) (mvT hZ (hw _ (List.mem_of_getElem? (i := 37) rfl))) (by decide) (backOf (W := 0) (rmA0 l Z a0 hw [] b796 vb802 kb802 v0 T802.heap n0 f965 f966 F1802 F2802 A802 g_b796 gb802 nab802 hb0) hZ (hw _ (List.mem_of_getElem? (i := 39) rfl)) (hw _ (List.mem_of_getElem? (i := 3) rfl)) (by decide) (by decide)) q964a q964c (g := (mkF m 92 #[.val (.int p0), .val (.int p1), .val (.int (2 : Int32)), .val (.int v0), .val (.int v1), .val (.int v2), .val (.int v3), .val (.int v4), .val (.ref b796), .unset, .unset, .unset, .unset, .unset, .unset, .unset, .unset, .unset, .unset, .unset, .unset, .unset, .unset, .unset, .unset] [(.int v0), (.ref b796)])) rfl (by rw [hml]; rfl) (Steps.refl _) (argsL := [(.int v0)]) (rest := []) (lenOf pd_3 rfl) rfl (by show 2 * 0 + _ ≤ _; exact Nat.le_of_eq rfl) (hb hby at_92) (fun _ _ => ⟨rfl, rfl, (by decide : 4 + 0 ≤ _), (by decide : 1035 + 0 ≤ _)⟩)
    dsimp only [Pt.U, Pt.locs, Pt.cells, Pt.slots] at X964 l964 y964 z964 st964 hQ964
    obtain rfl : k964 = 4 := y964
    obtain rfl : n964 = 1035 := z964
    obtain ⟨rfl, N964q, K964, F1964, F2964, A964⟩ := hQ964
    have N964 : Fr n0 L964 := by rw [l964]; exact Fr.app N802 N964q
    have G967 : Go p e below A0 (T964.setTop (mkF m 95 #[.val (.int p0), .val (.int p1), .val (.int (2 : Int32)), .val (.int v0), .val (.int v1), .val (.int v2), .val (.int v3), .val (.int v4), .val (.ref b796), .unset, .unset, .unset, .unset, .unset, .unset, .unset, .unset, .unset, .unset, .unset, .unset, .unset, .unset, .unset, .unset] [])) := fun tq kq => G963 tq (st964.trans kq)
    have G968 : Go p e below A0 (T964.setTop (mkF m 104 #[.val (.int p0), .val (.int p1), .val (.int (2 : Int32)), .val (.int v0), .val (.int v1), .val (.int v2), .val (.int v3), .val (.int v4), .val (.ref b796), .unset, .unset, .unset, .unset, .unset, .unset, .unset, .unset, .unset, .unset, .unset, .unset, .unset, .unset, .unset, .unset] [(.int v1), (.ref b796)])) := fun tq kq => G967 tq (by
      refine XS.iloadN X964.here hx rfl (hb hby at_95) rfl ?_
      show Steps p.tables e below (T964.setTop (mkF m 96 #[.val (.int p0), .val (.int p1), .val (.int (2 : Int32)), .val (.int v0), .val (.int v1), .val (.int v2), .val (.int v3), .val (.int v4), .val (.ref b796), .unset, .unset, .unset, .unset, .unset, .unset, .unset, .unset, .unset, .unset, .unset, .unset, .unset, .unset, .unset, .unset] [(.int (2 : Int32))])) _
      refine XS.iconst X964.here hx rfl (hb hby at_96) ?_
      show Steps p.tables e below (T964.setTop (mkF m 97 #[.val (.int p0), .val (.int p1), .val (.int (2 : Int32)), .val (.int v0), .val (.int v1), .val (.int v2), .val (.int v3), .val (.int v4), .val (.ref b796), .unset, .unset, .unset, .unset, .unset, .unset, .unset, .unset, .unset, .unset, .unset, .unset, .unset, .unset, .unset, .unset] [(.int (1 : Int32)), (.int (2 : Int32))])) _
      refine XS.icmpNo X964.here hx rfl (hb hby at_97) rfl (by decide) ?_
      show Steps p.tables e below (T964.setTop (mkF m 100 #[.val (.int p0), .val (.int p1), .val (.int (2 : Int32)), .val (.int v0), .val (.int v1), .val (.int v2), .val (.int v3), .val (.int v4), .val (.ref b796), .unset, .unset, .unset, .unset, .unset, .unset, .unset, .unset, .unset, .unset, .unset, .unset, .unset, .unset, .unset, .unset] [])) _
      refine XS.aload X964.here hx rfl (hb hby at_100) rfl rfl ?_
      show Steps p.tables e below (T964.setTop (mkF m 102 #[.val (.int p0), .val (.int p1), .val (.int (2 : Int32)), .val (.int v0), .val (.int v1), .val (.int v2), .val (.int v3), .val (.int v4), .val (.ref b796), .unset, .unset, .unset, .unset, .unset, .unset, .unset, .unset, .unset, .unset, .unset, .unset, .unset, .unset, .unset, .unset] [(.ref b796)])) _
      refine XS.iload X964.here hx rfl (hb hby at_102) rfl ?_
      show Steps p.tables e below (T964.setTop (mkF m 104 #[.val (.int p0), .val (.int p1), .val (.int (2 : Int32)), .val (.int v0), .val (.int v1), .val (.int v2), .val (.int v3), .val (.int v4), .val (.ref b796), .unset, .unset, .unset, .unset, .unset, .unset, .unset, .unset, .unset, .unset, .unset, .unset, .unset, .unset, .unset, .unset] [(.int v1), (.ref b796)])) _
      exact kq)
    have f970 := (Nat.le_trans f965 K964.1)
    have f971 := (f966.keep K964)
    obtain ⟨cq969, kq969, q969a, q969b, q969c⟩ := isOf hZ rfl f971
    obtain ⟨_, _, ⟨T969, L969, k969, n969⟩, -, X969, ⟨Lc969, hQ969, l969, y969, z969⟩, st969⟩ := X964.virtualBack hx (y := (⟨"com/example/tube2/tube2/trace/BooleanSignal", "add", "(Z)V"⟩ : MethodName)) (z := (⟨"com/example/tube2/tube2/trace/BooleanSignal", "add", "(Z)V"⟩ : MethodName)) hown (mvT hZ (hw _ (List.mem_of_getElem? (i := 35) rfl))) (mvT hZ (hw _ (List.mem_of_getElem? (i := 36) rfl))) (notFace_of_selects (args := #[]) (mvT hZ (hw _ (List.mem_of_getElem? (i := 38) rfl)))) (mvT hZ (hw _ (List.mem_of_getElem? (i := 38) rfl))) (mvT hZ (hw _ (List.mem_of_getElem? (i := 37) rfl))) (by decide) (backOf (W := 0) (rmA1 l Z a0 hw [] b796 vb802 kb802 v0 v1 T964.heap n0 f970 f971 F1964 F2964 A964 g_b796 gb802 nab802 hb1) hZ (hw _ (List.mem_of_getElem? (i := 39) rfl)) (hw _ (List.mem_of_getElem? (i := 3) rfl)) (by decide) (by decide)) q969a q969c (g := (mkF m 104 #[.val (.int p0), .val (.int p1), .val (.int (2 : Int32)), .val (.int v0), .val (.int v1), .val (.int v2), .val (.int v3), .val (.int v4), .val (.ref b796), .unset, .unset, .unset, .unset, .unset, .unset, .unset, .unset, .unset, .unset, .unset, .unset, .unset, .unset, .unset, .unset] [(.int v1), (.ref b796)])) rfl (by rw [hml]; rfl) (Steps.refl _) (argsL := [(.int v1)]) (rest := []) (lenOf pd_3 rfl) rfl (by show 2 * 0 + _ ≤ _; exact Nat.le_of_eq rfl) (hb hby at_104) (fun _ _ => ⟨rfl, rfl, (by decide : 4 + 0 ≤ _), (by decide : 1035 + 0 ≤ _)⟩)
    dsimp only [Pt.U, Pt.locs, Pt.cells, Pt.slots] at X969 l969 y969 z969 st969 hQ969
    obtain rfl : k969 = 4 := y969
    obtain rfl : n969 = 1035 := z969
    obtain ⟨rfl, N969q, K969, F1969, F2969, A969⟩ := hQ969
    have N969 : Fr n0 L969 := by rw [l969]; exact Fr.app N964 N969q
    have G972 : Go p e below A0 (T969.setTop (mkF m 107 #[.val (.int p0), .val (.int p1), .val (.int (2 : Int32)), .val (.int v0), .val (.int v1), .val (.int v2), .val (.int v3), .val (.int v4), .val (.ref b796), .unset, .unset, .unset, .unset, .unset, .unset, .unset, .unset, .unset, .unset, .unset, .unset, .unset, .unset, .unset, .unset] [])) := fun tq kq => G968 tq (st969.trans kq)
    have G973 : Go p e below A0 (T969.setTop (mkF m 145 #[.val (.int p0), .val (.int p1), .val (.int (2 : Int32)), .val (.int v0), .val (.int v1), .val (.int v2), .val (.int v3), .val (.int v4), .val (.ref b796), .unset, .unset, .unset, .unset, .unset, .unset, .unset, .unset, .unset, .unset, .unset, .unset, .unset, .unset, .unset, .unset] [(.ref b796)])) := fun tq kq => G972 tq (by
      refine XS.iloadN X969.here hx rfl (hb hby at_107) rfl ?_
      show Steps p.tables e below (T969.setTop (mkF m 108 #[.val (.int p0), .val (.int p1), .val (.int (2 : Int32)), .val (.int v0), .val (.int v1), .val (.int v2), .val (.int v3), .val (.int v4), .val (.ref b796), .unset, .unset, .unset, .unset, .unset, .unset, .unset, .unset, .unset, .unset, .unset, .unset, .unset, .unset, .unset, .unset] [(.int (2 : Int32))])) _
      refine XS.iconst X969.here hx rfl (hb hby at_108) ?_
      show Steps p.tables e below (T969.setTop (mkF m 109 #[.val (.int p0), .val (.int p1), .val (.int (2 : Int32)), .val (.int v0), .val (.int v1), .val (.int v2), .val (.int v3), .val (.int v4), .val (.ref b796), .unset, .unset, .unset, .unset, .unset, .unset, .unset, .unset, .unset, .unset, .unset, .unset, .unset, .unset, .unset, .unset] [(.int (2 : Int32)), (.int (2 : Int32))])) _
      refine XS.icmpYes X969.here hx rfl (pc0 := 109) (pc' := 119) rfl (hb hby at_109) rfl (by decide) (by decide) (by decide) ?_
      show Steps p.tables e below (T969.setTop (mkF m 119 #[.val (.int p0), .val (.int p1), .val (.int (2 : Int32)), .val (.int v0), .val (.int v1), .val (.int v2), .val (.int v3), .val (.int v4), .val (.ref b796), .unset, .unset, .unset, .unset, .unset, .unset, .unset, .unset, .unset, .unset, .unset, .unset, .unset, .unset, .unset, .unset] [])) _
      refine XS.iloadN X969.here hx rfl (hb hby at_119) rfl ?_
      show Steps p.tables e below (T969.setTop (mkF m 120 #[.val (.int p0), .val (.int p1), .val (.int (2 : Int32)), .val (.int v0), .val (.int v1), .val (.int v2), .val (.int v3), .val (.int v4), .val (.ref b796), .unset, .unset, .unset, .unset, .unset, .unset, .unset, .unset, .unset, .unset, .unset, .unset, .unset, .unset, .unset, .unset] [(.int (2 : Int32))])) _
      refine XS.iconst X969.here hx rfl (hb hby at_120) ?_
      show Steps p.tables e below (T969.setTop (mkF m 121 #[.val (.int p0), .val (.int p1), .val (.int (2 : Int32)), .val (.int v0), .val (.int v1), .val (.int v2), .val (.int v3), .val (.int v4), .val (.ref b796), .unset, .unset, .unset, .unset, .unset, .unset, .unset, .unset, .unset, .unset, .unset, .unset, .unset, .unset, .unset, .unset] [(.int (3 : Int32)), (.int (2 : Int32))])) _
      refine XS.icmpYes X969.here hx rfl (pc0 := 121) (pc' := 131) rfl (hb hby at_121) rfl (by decide) (by decide) (by decide) ?_
      show Steps p.tables e below (T969.setTop (mkF m 131 #[.val (.int p0), .val (.int p1), .val (.int (2 : Int32)), .val (.int v0), .val (.int v1), .val (.int v2), .val (.int v3), .val (.int v4), .val (.ref b796), .unset, .unset, .unset, .unset, .unset, .unset, .unset, .unset, .unset, .unset, .unset, .unset, .unset, .unset, .unset, .unset] [])) _
      refine XS.iloadN X969.here hx rfl (hb hby at_131) rfl ?_
      show Steps p.tables e below (T969.setTop (mkF m 132 #[.val (.int p0), .val (.int p1), .val (.int (2 : Int32)), .val (.int v0), .val (.int v1), .val (.int v2), .val (.int v3), .val (.int v4), .val (.ref b796), .unset, .unset, .unset, .unset, .unset, .unset, .unset, .unset, .unset, .unset, .unset, .unset, .unset, .unset, .unset, .unset] [(.int (2 : Int32))])) _
      refine XS.iconst X969.here hx rfl (hb hby at_132) ?_
      show Steps p.tables e below (T969.setTop (mkF m 133 #[.val (.int p0), .val (.int p1), .val (.int (2 : Int32)), .val (.int v0), .val (.int v1), .val (.int v2), .val (.int v3), .val (.int v4), .val (.ref b796), .unset, .unset, .unset, .unset, .unset, .unset, .unset, .unset, .unset, .unset, .unset, .unset, .unset, .unset, .unset, .unset] [(.int (4 : Int32)), (.int (2 : Int32))])) _
      refine XS.icmpYes X969.here hx rfl (pc0 := 133) (pc' := 143) rfl (hb hby at_133) rfl (by decide) (by decide) (by decide) ?_
      show Steps p.tables e below (T969.setTop (mkF m 143 #[.val (.int p0), .val (.int p1), .val (.int (2 : Int32)), .val (.int v0), .val (.int v1), .val (.int v2), .val (.int v3), .val (.int v4), .val (.ref b796), .unset, .unset, .unset, .unset, .unset, .unset, .unset, .unset, .unset, .unset, .unset, .unset, .unset, .unset, .unset, .unset] [])) _
      refine XS.aload X969.here hx rfl (hb hby at_143) rfl rfl ?_
      show Steps p.tables e below (T969.setTop (mkF m 145 #[.val (.int p0), .val (.int p1), .val (.int (2 : Int32)), .val (.int v0), .val (.int v1), .val (.int v2), .val (.int v3), .val (.int v4), .val (.ref b796), .unset, .unset, .unset, .unset, .unset, .unset, .unset, .unset, .unset, .unset, .unset, .unset, .unset, .unset, .unset, .unset] [(.ref b796)])) _
      exact kq)
    have f975 := (Nat.le_trans f970 K969.1)
    have f976 := (f971.keep K969)
    obtain ⟨cq974, kq974, q974a, q974b, q974c⟩ := isOf hZ rfl f976
    obtain ⟨_, _, ⟨T974, L974, k974, n974⟩, -, X974, ⟨Lc974, hQ974, l974, y974, z974⟩, st974⟩ := X969.virtualBack hx (y := (⟨"com/example/tube2/tube2/trace/BooleanSignal", "order", "()[I"⟩ : MethodName)) (z := (⟨"com/example/tube2/tube2/trace/BooleanSignal", "order", "()[I"⟩ : MethodName)) hown (mvT hZ (hw _ (List.mem_of_getElem? (i := 23) rfl))) (mvT hZ (hw _ (List.mem_of_getElem? (i := 24) rfl))) (notFace_of_selects (args := #[]) (mvT hZ (hw _ (List.mem_of_getElem? (i := 26) rfl)))) (mvT hZ (hw _ (List.mem_of_getElem? (i := 26) rfl))) (mvT hZ (hw _ (List.mem_of_getElem? (i := 25) rfl))) (by decide) (backOf (W := 0) (rmO2 l Z a0 hw [] b796 vb802 kb802 v0 v1 T969.heap n0 f975 F1969 F2969 A969 hb0 hb1) hZ (hw _ (List.mem_of_getElem? (i := 27) rfl)) (hw _ (List.mem_of_getElem? (i := 3) rfl)) (by decide) (by decide)) q974a q974c (g := (mkF m 145 #[.val (.int p0), .val (.int p1), .val (.int (2 : Int32)), .val (.int v0), .val (.int v1), .val (.int v2), .val (.int v3), .val (.int v4), .val (.ref b796), .unset, .unset, .unset, .unset, .unset, .unset, .unset, .unset, .unset, .unset, .unset, .unset, .unset, .unset, .unset, .unset] [(.ref b796)])) rfl (by rw [hml]; rfl) (Steps.refl _) (argsL := []) (rest := []) (lenOf pd_2 rfl) rfl (by show 2 * 0 + _ ≤ _; exact Nat.le_of_eq rfl) (hb hby at_145) (fun _ _ => ⟨rfl, rfl, (by decide : 4 + 1 ≤ _), (by decide : 1035 + 5 ≤ _)⟩)
    dsimp only [Pt.U, Pt.locs, Pt.cells, Pt.slots] at X974 l974 y974 z974 st974 hQ974
    obtain rfl : k974 = 5 := y974
    obtain rfl : n974 = 1040 := z974
    obtain ⟨r974, kr974, rfl, N974q, K974, A974⟩ := hQ974
    have N974 : Fr n0 L974 := by rw [l974]; exact Fr.app N969 N974q
    have G977 : Go p e below A0 (T974.setTop (mkF m 148 #[.val (.int p0), .val (.int p1), .val (.int (2 : Int32)), .val (.int v0), .val (.int v1), .val (.int v2), .val (.int v3), .val (.int v4), .val (.ref b796), .unset, .unset, .unset, .unset, .unset, .unset, .unset, .unset, .unset, .unset, .unset, .unset, .unset, .unset, .unset, .unset] [(.ref r974)])) := fun tq kq => G973 tq (st974.trans kq)
    have G978 : Go p e below A0 (T974.setTop (mkF m 150 #[.val (.int p0), .val (.int p1), .val (.int (2 : Int32)), .val (.int v0), .val (.int v1), .val (.int v2), .val (.int v3), .val (.int v4), .val (.ref b796), .val (.ref r974), .unset, .unset, .unset, .unset, .unset, .unset, .unset, .unset, .unset, .unset, .unset, .unset, .unset, .unset, .unset] [])) := fun tq kq => G977 tq (by
      refine XS.astore X974.here hx rfl (hb hby at_148) rfl rfl (l' := #[.val (.int p0), .val (.int p1), .val (.int (2 : Int32)), .val (.int v0), .val (.int v1), .val (.int v2), .val (.int v3), .val (.int v4), .val (.ref b796), .val (.ref r974), .unset, .unset, .unset, .unset, .unset, .unset, .unset, .unset, .unset, .unset, .unset, .unset, .unset, .unset, .unset]) rfl ?_
      show Steps p.tables e below (T974.setTop (mkF m 150 #[.val (.int p0), .val (.int p1), .val (.int (2 : Int32)), .val (.int v0), .val (.int v1), .val (.int v2), .val (.int v3), .val (.int v4), .val (.ref b796), .val (.ref r974), .unset, .unset, .unset, .unset, .unset, .unset, .unset, .unset, .unset, .unset, .unset, .unset, .unset, .unset, .unset] [])) _
      exact kq)
    have f979 := (Nat.le_trans f975 K974.1)
    have f980 := (Nat.le_trans (Nat.le_trans (Nat.le_trans (Nat.le_trans hk799 K802.1) K964.1) K969.1) K974.1)
    exact cont (2 : Int32) (Or.inr (Or.inr (Or.inl rfl))) _ _ _ _ _ X974 rfl N974 f979 f980 (show Af Z _ r974 kr974 .int (2 : Int32) (own_G (2 : Int32) v0 v1 v2 v3 v4) from A974) G978
  · have G981 : Go p e below A0 (T802.setTop (mkF m 85 #[.val (.int p0), .val (.int p1), .val (.int (3 : Int32)), .val (.int v0), .val (.int v1), .val (.int v2), .val (.int v3), .val (.int v4), .val (.ref b796), .unset, .unset, .unset, .unset, .unset, .unset, .unset, .unset, .unset, .unset, .unset, .unset, .unset, .unset, .unset, .unset] [])) := by
      have q := G809
      rw [hk] at q
      exact q
    have G982 : Go p e below A0 (T802.setTop (mkF m 92 #[.val (.int p0), .val (.int p1), .val (.int (3 : Int32)), .val (.int v0), .val (.int v1), .val (.int v2), .val (.int v3), .val (.int v4), .val (.ref b796), .unset, .unset, .unset, .unset, .unset, .unset, .unset, .unset, .unset, .unset, .unset, .unset, .unset, .unset, .unset, .unset] [(.int v0), (.ref b796)])) := fun tq kq => G981 tq (by
      refine XS.iloadN X802.here hx rfl (hb hby at_85) rfl ?_
      show Steps p.tables e below (T802.setTop (mkF m 86 #[.val (.int p0), .val (.int p1), .val (.int (3 : Int32)), .val (.int v0), .val (.int v1), .val (.int v2), .val (.int v3), .val (.int v4), .val (.ref b796), .unset, .unset, .unset, .unset, .unset, .unset, .unset, .unset, .unset, .unset, .unset, .unset, .unset, .unset, .unset, .unset] [(.int (3 : Int32))])) _
      refine XS.ifNo X802.here hx rfl (hb hby at_86) rfl (by decide) ?_
      show Steps p.tables e below (T802.setTop (mkF m 89 #[.val (.int p0), .val (.int p1), .val (.int (3 : Int32)), .val (.int v0), .val (.int v1), .val (.int v2), .val (.int v3), .val (.int v4), .val (.ref b796), .unset, .unset, .unset, .unset, .unset, .unset, .unset, .unset, .unset, .unset, .unset, .unset, .unset, .unset, .unset, .unset] [])) _
      refine XS.aload X802.here hx rfl (hb hby at_89) rfl rfl ?_
      show Steps p.tables e below (T802.setTop (mkF m 91 #[.val (.int p0), .val (.int p1), .val (.int (3 : Int32)), .val (.int v0), .val (.int v1), .val (.int v2), .val (.int v3), .val (.int v4), .val (.ref b796), .unset, .unset, .unset, .unset, .unset, .unset, .unset, .unset, .unset, .unset, .unset, .unset, .unset, .unset, .unset, .unset] [(.ref b796)])) _
      refine XS.iloadN X802.here hx rfl (hb hby at_91) rfl ?_
      show Steps p.tables e below (T802.setTop (mkF m 92 #[.val (.int p0), .val (.int p1), .val (.int (3 : Int32)), .val (.int v0), .val (.int v1), .val (.int v2), .val (.int v3), .val (.int v4), .val (.ref b796), .unset, .unset, .unset, .unset, .unset, .unset, .unset, .unset, .unset, .unset, .unset, .unset, .unset, .unset, .unset, .unset] [(.int v0), (.ref b796)])) _
      exact kq)
    have f984 := (Nat.le_trans f803 K802.1)
    have f985 := (f804.keep K802)
    obtain ⟨cq983, kq983, q983a, q983b, q983c⟩ := isOf hZ rfl f985
    obtain ⟨_, _, ⟨T983, L983, k983, n983⟩, -, X983, ⟨Lc983, hQ983, l983, y983, z983⟩, st983⟩ := X802.virtualBack hx (y := (⟨"com/example/tube2/tube2/trace/BooleanSignal", "add", "(Z)V"⟩ : MethodName)) (z := (⟨"com/example/tube2/tube2/trace/BooleanSignal", "add", "(Z)V"⟩ : MethodName)) hown (mvT hZ (hw _ (List.mem_of_getElem? (i := 35) rfl))) (mvT hZ (hw _ (List.mem_of_getElem? (i := 36) rfl))) (notFace_of_selects (args := #[]) (mvT hZ (hw _ (List.mem_of_getElem? (i := 38) rfl)))) (mvT hZ (hw _ (List.mem_of_getElem? (i := 38) rfl))) (mvT hZ (hw _ (List.mem_of_getElem? (i := 37) rfl))) (by decide) (backOf (W := 0) (rmA0 l Z a0 hw [] b796 vb802 kb802 v0 T802.heap n0 f984 f985 F1802 F2802 A802 g_b796 gb802 nab802 hb0) hZ (hw _ (List.mem_of_getElem? (i := 39) rfl)) (hw _ (List.mem_of_getElem? (i := 3) rfl)) (by decide) (by decide)) q983a q983c (g := (mkF m 92 #[.val (.int p0), .val (.int p1), .val (.int (3 : Int32)), .val (.int v0), .val (.int v1), .val (.int v2), .val (.int v3), .val (.int v4), .val (.ref b796), .unset, .unset, .unset, .unset, .unset, .unset, .unset, .unset, .unset, .unset, .unset, .unset, .unset, .unset, .unset, .unset] [(.int v0), (.ref b796)])) rfl (by rw [hml]; rfl) (Steps.refl _) (argsL := [(.int v0)]) (rest := []) (lenOf pd_3 rfl) rfl (by show 2 * 0 + _ ≤ _; exact Nat.le_of_eq rfl) (hb hby at_92) (fun _ _ => ⟨rfl, rfl, (by decide : 4 + 0 ≤ _), (by decide : 1035 + 0 ≤ _)⟩)
    dsimp only [Pt.U, Pt.locs, Pt.cells, Pt.slots] at X983 l983 y983 z983 st983 hQ983
    obtain rfl : k983 = 4 := y983
    obtain rfl : n983 = 1035 := z983
    obtain ⟨rfl, N983q, K983, F1983, F2983, A983⟩ := hQ983
    have N983 : Fr n0 L983 := by rw [l983]; exact Fr.app N802 N983q
    have G986 : Go p e below A0 (T983.setTop (mkF m 95 #[.val (.int p0), .val (.int p1), .val (.int (3 : Int32)), .val (.int v0), .val (.int v1), .val (.int v2), .val (.int v3), .val (.int v4), .val (.ref b796), .unset, .unset, .unset, .unset, .unset, .unset, .unset, .unset, .unset, .unset, .unset, .unset, .unset, .unset, .unset, .unset] [])) := fun tq kq => G982 tq (st983.trans kq)
    have G987 : Go p e below A0 (T983.setTop (mkF m 104 #[.val (.int p0), .val (.int p1), .val (.int (3 : Int32)), .val (.int v0), .val (.int v1), .val (.int v2), .val (.int v3), .val (.int v4), .val (.ref b796), .unset, .unset, .unset, .unset, .unset, .unset, .unset, .unset, .unset, .unset, .unset, .unset, .unset, .unset, .unset, .unset] [(.int v1), (.ref b796)])) := fun tq kq => G986 tq (by
      refine XS.iloadN X983.here hx rfl (hb hby at_95) rfl ?_
      show Steps p.tables e below (T983.setTop (mkF m 96 #[.val (.int p0), .val (.int p1), .val (.int (3 : Int32)), .val (.int v0), .val (.int v1), .val (.int v2), .val (.int v3), .val (.int v4), .val (.ref b796), .unset, .unset, .unset, .unset, .unset, .unset, .unset, .unset, .unset, .unset, .unset, .unset, .unset, .unset, .unset, .unset] [(.int (3 : Int32))])) _
      refine XS.iconst X983.here hx rfl (hb hby at_96) ?_
      show Steps p.tables e below (T983.setTop (mkF m 97 #[.val (.int p0), .val (.int p1), .val (.int (3 : Int32)), .val (.int v0), .val (.int v1), .val (.int v2), .val (.int v3), .val (.int v4), .val (.ref b796), .unset, .unset, .unset, .unset, .unset, .unset, .unset, .unset, .unset, .unset, .unset, .unset, .unset, .unset, .unset, .unset] [(.int (1 : Int32)), (.int (3 : Int32))])) _
      refine XS.icmpNo X983.here hx rfl (hb hby at_97) rfl (by decide) ?_
      show Steps p.tables e below (T983.setTop (mkF m 100 #[.val (.int p0), .val (.int p1), .val (.int (3 : Int32)), .val (.int v0), .val (.int v1), .val (.int v2), .val (.int v3), .val (.int v4), .val (.ref b796), .unset, .unset, .unset, .unset, .unset, .unset, .unset, .unset, .unset, .unset, .unset, .unset, .unset, .unset, .unset, .unset] [])) _
      refine XS.aload X983.here hx rfl (hb hby at_100) rfl rfl ?_
      show Steps p.tables e below (T983.setTop (mkF m 102 #[.val (.int p0), .val (.int p1), .val (.int (3 : Int32)), .val (.int v0), .val (.int v1), .val (.int v2), .val (.int v3), .val (.int v4), .val (.ref b796), .unset, .unset, .unset, .unset, .unset, .unset, .unset, .unset, .unset, .unset, .unset, .unset, .unset, .unset, .unset, .unset] [(.ref b796)])) _
      refine XS.iload X983.here hx rfl (hb hby at_102) rfl ?_
      show Steps p.tables e below (T983.setTop (mkF m 104 #[.val (.int p0), .val (.int p1), .val (.int (3 : Int32)), .val (.int v0), .val (.int v1), .val (.int v2), .val (.int v3), .val (.int v4), .val (.ref b796), .unset, .unset, .unset, .unset, .unset, .unset, .unset, .unset, .unset, .unset, .unset, .unset, .unset, .unset, .unset, .unset] [(.int v1), (.ref b796)])) _
      exact kq)
    have f989 := (Nat.le_trans f984 K983.1)
    have f990 := (f985.keep K983)
    obtain ⟨cq988, kq988, q988a, q988b, q988c⟩ := isOf hZ rfl f990
    obtain ⟨_, _, ⟨T988, L988, k988, n988⟩, -, X988, ⟨Lc988, hQ988, l988, y988, z988⟩, st988⟩ := X983.virtualBack hx (y := (⟨"com/example/tube2/tube2/trace/BooleanSignal", "add", "(Z)V"⟩ : MethodName)) (z := (⟨"com/example/tube2/tube2/trace/BooleanSignal", "add", "(Z)V"⟩ : MethodName)) hown (mvT hZ (hw _ (List.mem_of_getElem? (i := 35) rfl))) (mvT hZ (hw _ (List.mem_of_getElem? (i := 36) rfl))) (notFace_of_selects (args := #[]) (mvT hZ (hw _ (List.mem_of_getElem? (i := 38) rfl)))) (mvT hZ (hw _ (List.mem_of_getElem? (i := 38) rfl))) (mvT hZ (hw _ (List.mem_of_getElem? (i := 37) rfl))) (by decide) (backOf (W := 0) (rmA1 l Z a0 hw [] b796 vb802 kb802 v0 v1 T983.heap n0 f989 f990 F1983 F2983 A983 g_b796 gb802 nab802 hb1) hZ (hw _ (List.mem_of_getElem? (i := 39) rfl)) (hw _ (List.mem_of_getElem? (i := 3) rfl)) (by decide) (by decide)) q988a q988c (g := (mkF m 104 #[.val (.int p0), .val (.int p1), .val (.int (3 : Int32)), .val (.int v0), .val (.int v1), .val (.int v2), .val (.int v3), .val (.int v4), .val (.ref b796), .unset, .unset, .unset, .unset, .unset, .unset, .unset, .unset, .unset, .unset, .unset, .unset, .unset, .unset, .unset, .unset] [(.int v1), (.ref b796)])) rfl (by rw [hml]; rfl) (Steps.refl _) (argsL := [(.int v1)]) (rest := []) (lenOf pd_3 rfl) rfl (by show 2 * 0 + _ ≤ _; exact Nat.le_of_eq rfl) (hb hby at_104) (fun _ _ => ⟨rfl, rfl, (by decide : 4 + 0 ≤ _), (by decide : 1035 + 0 ≤ _)⟩)
    dsimp only [Pt.U, Pt.locs, Pt.cells, Pt.slots] at X988 l988 y988 z988 st988 hQ988
    obtain rfl : k988 = 4 := y988
    obtain rfl : n988 = 1035 := z988
    obtain ⟨rfl, N988q, K988, F1988, F2988, A988⟩ := hQ988
    have N988 : Fr n0 L988 := by rw [l988]; exact Fr.app N983 N988q
    have G991 : Go p e below A0 (T988.setTop (mkF m 107 #[.val (.int p0), .val (.int p1), .val (.int (3 : Int32)), .val (.int v0), .val (.int v1), .val (.int v2), .val (.int v3), .val (.int v4), .val (.ref b796), .unset, .unset, .unset, .unset, .unset, .unset, .unset, .unset, .unset, .unset, .unset, .unset, .unset, .unset, .unset, .unset] [])) := fun tq kq => G987 tq (st988.trans kq)
    have G992 : Go p e below A0 (T988.setTop (mkF m 116 #[.val (.int p0), .val (.int p1), .val (.int (3 : Int32)), .val (.int v0), .val (.int v1), .val (.int v2), .val (.int v3), .val (.int v4), .val (.ref b796), .unset, .unset, .unset, .unset, .unset, .unset, .unset, .unset, .unset, .unset, .unset, .unset, .unset, .unset, .unset, .unset] [(.int v2), (.ref b796)])) := fun tq kq => G991 tq (by
      refine XS.iloadN X988.here hx rfl (hb hby at_107) rfl ?_
      show Steps p.tables e below (T988.setTop (mkF m 108 #[.val (.int p0), .val (.int p1), .val (.int (3 : Int32)), .val (.int v0), .val (.int v1), .val (.int v2), .val (.int v3), .val (.int v4), .val (.ref b796), .unset, .unset, .unset, .unset, .unset, .unset, .unset, .unset, .unset, .unset, .unset, .unset, .unset, .unset, .unset, .unset] [(.int (3 : Int32))])) _
      refine XS.iconst X988.here hx rfl (hb hby at_108) ?_
      show Steps p.tables e below (T988.setTop (mkF m 109 #[.val (.int p0), .val (.int p1), .val (.int (3 : Int32)), .val (.int v0), .val (.int v1), .val (.int v2), .val (.int v3), .val (.int v4), .val (.ref b796), .unset, .unset, .unset, .unset, .unset, .unset, .unset, .unset, .unset, .unset, .unset, .unset, .unset, .unset, .unset, .unset] [(.int (2 : Int32)), (.int (3 : Int32))])) _
      refine XS.icmpNo X988.here hx rfl (hb hby at_109) rfl (by decide) ?_
      show Steps p.tables e below (T988.setTop (mkF m 112 #[.val (.int p0), .val (.int p1), .val (.int (3 : Int32)), .val (.int v0), .val (.int v1), .val (.int v2), .val (.int v3), .val (.int v4), .val (.ref b796), .unset, .unset, .unset, .unset, .unset, .unset, .unset, .unset, .unset, .unset, .unset, .unset, .unset, .unset, .unset, .unset] [])) _
      refine XS.aload X988.here hx rfl (hb hby at_112) rfl rfl ?_
      show Steps p.tables e below (T988.setTop (mkF m 114 #[.val (.int p0), .val (.int p1), .val (.int (3 : Int32)), .val (.int v0), .val (.int v1), .val (.int v2), .val (.int v3), .val (.int v4), .val (.ref b796), .unset, .unset, .unset, .unset, .unset, .unset, .unset, .unset, .unset, .unset, .unset, .unset, .unset, .unset, .unset, .unset] [(.ref b796)])) _
      refine XS.iload X988.here hx rfl (hb hby at_114) rfl ?_
      show Steps p.tables e below (T988.setTop (mkF m 116 #[.val (.int p0), .val (.int p1), .val (.int (3 : Int32)), .val (.int v0), .val (.int v1), .val (.int v2), .val (.int v3), .val (.int v4), .val (.ref b796), .unset, .unset, .unset, .unset, .unset, .unset, .unset, .unset, .unset, .unset, .unset, .unset, .unset, .unset, .unset, .unset] [(.int v2), (.ref b796)])) _
      exact kq)
    have f994 := (Nat.le_trans f989 K988.1)
    have f995 := (f990.keep K988)
    obtain ⟨cq993, kq993, q993a, q993b, q993c⟩ := isOf hZ rfl f995
    obtain ⟨_, _, ⟨T993, L993, k993, n993⟩, -, X993, ⟨Lc993, hQ993, l993, y993, z993⟩, st993⟩ := X988.virtualBack hx (y := (⟨"com/example/tube2/tube2/trace/BooleanSignal", "add", "(Z)V"⟩ : MethodName)) (z := (⟨"com/example/tube2/tube2/trace/BooleanSignal", "add", "(Z)V"⟩ : MethodName)) hown (mvT hZ (hw _ (List.mem_of_getElem? (i := 35) rfl))) (mvT hZ (hw _ (List.mem_of_getElem? (i := 36) rfl))) (notFace_of_selects (args := #[]) (mvT hZ (hw _ (List.mem_of_getElem? (i := 38) rfl)))) (mvT hZ (hw _ (List.mem_of_getElem? (i := 38) rfl))) (mvT hZ (hw _ (List.mem_of_getElem? (i := 37) rfl))) (by decide) (backOf (W := 0) (rmA2 l Z a0 hw [] b796 vb802 kb802 v0 v1 v2 T988.heap n0 f994 f995 F1988 F2988 A988 g_b796 gb802 nab802 hb2) hZ (hw _ (List.mem_of_getElem? (i := 39) rfl)) (hw _ (List.mem_of_getElem? (i := 3) rfl)) (by decide) (by decide)) q993a q993c (g := (mkF m 116 #[.val (.int p0), .val (.int p1), .val (.int (3 : Int32)), .val (.int v0), .val (.int v1), .val (.int v2), .val (.int v3), .val (.int v4), .val (.ref b796), .unset, .unset, .unset, .unset, .unset, .unset, .unset, .unset, .unset, .unset, .unset, .unset, .unset, .unset, .unset, .unset] [(.int v2), (.ref b796)])) rfl (by rw [hml]; rfl) (Steps.refl _) (argsL := [(.int v2)]) (rest := []) (lenOf pd_3 rfl) rfl (by show 2 * 0 + _ ≤ _; exact Nat.le_of_eq rfl) (hb hby at_116) (fun _ _ => ⟨rfl, rfl, (by decide : 4 + 0 ≤ _), (by decide : 1035 + 0 ≤ _)⟩)
    dsimp only [Pt.U, Pt.locs, Pt.cells, Pt.slots] at X993 l993 y993 z993 st993 hQ993
    obtain rfl : k993 = 4 := y993
    obtain rfl : n993 = 1035 := z993
    obtain ⟨rfl, N993q, K993, F1993, F2993, A993⟩ := hQ993
    have N993 : Fr n0 L993 := by rw [l993]; exact Fr.app N988 N993q
    have G996 : Go p e below A0 (T993.setTop (mkF m 119 #[.val (.int p0), .val (.int p1), .val (.int (3 : Int32)), .val (.int v0), .val (.int v1), .val (.int v2), .val (.int v3), .val (.int v4), .val (.ref b796), .unset, .unset, .unset, .unset, .unset, .unset, .unset, .unset, .unset, .unset, .unset, .unset, .unset, .unset, .unset, .unset] [])) := fun tq kq => G992 tq (st993.trans kq)
    have G997 : Go p e below A0 (T993.setTop (mkF m 145 #[.val (.int p0), .val (.int p1), .val (.int (3 : Int32)), .val (.int v0), .val (.int v1), .val (.int v2), .val (.int v3), .val (.int v4), .val (.ref b796), .unset, .unset, .unset, .unset, .unset, .unset, .unset, .unset, .unset, .unset, .unset, .unset, .unset, .unset, .unset, .unset] [(.ref b796)])) := fun tq kq => G996 tq (by
      refine XS.iloadN X993.here hx rfl (hb hby at_119) rfl ?_
      show Steps p.tables e below (T993.setTop (mkF m 120 #[.val (.int p0), .val (.int p1), .val (.int (3 : Int32)), .val (.int v0), .val (.int v1), .val (.int v2), .val (.int v3), .val (.int v4), .val (.ref b796), .unset, .unset, .unset, .unset, .unset, .unset, .unset, .unset, .unset, .unset, .unset, .unset, .unset, .unset, .unset, .unset] [(.int (3 : Int32))])) _
      refine XS.iconst X993.here hx rfl (hb hby at_120) ?_
      show Steps p.tables e below (T993.setTop (mkF m 121 #[.val (.int p0), .val (.int p1), .val (.int (3 : Int32)), .val (.int v0), .val (.int v1), .val (.int v2), .val (.int v3), .val (.int v4), .val (.ref b796), .unset, .unset, .unset, .unset, .unset, .unset, .unset, .unset, .unset, .unset, .unset, .unset, .unset, .unset, .unset, .unset] [(.int (3 : Int32)), (.int (3 : Int32))])) _
      refine XS.icmpYes X993.here hx rfl (pc0 := 121) (pc' := 131) rfl (hb hby at_121) rfl (by decide) (by decide) (by decide) ?_
      show Steps p.tables e below (T993.setTop (mkF m 131 #[.val (.int p0), .val (.int p1), .val (.int (3 : Int32)), .val (.int v0), .val (.int v1), .val (.int v2), .val (.int v3), .val (.int v4), .val (.ref b796), .unset, .unset, .unset, .unset, .unset, .unset, .unset, .unset, .unset, .unset, .unset, .unset, .unset, .unset, .unset, .unset] [])) _
      refine XS.iloadN X993.here hx rfl (hb hby at_131) rfl ?_
      show Steps p.tables e below (T993.setTop (mkF m 132 #[.val (.int p0), .val (.int p1), .val (.int (3 : Int32)), .val (.int v0), .val (.int v1), .val (.int v2), .val (.int v3), .val (.int v4), .val (.ref b796), .unset, .unset, .unset, .unset, .unset, .unset, .unset, .unset, .unset, .unset, .unset, .unset, .unset, .unset, .unset, .unset] [(.int (3 : Int32))])) _
      refine XS.iconst X993.here hx rfl (hb hby at_132) ?_
      show Steps p.tables e below (T993.setTop (mkF m 133 #[.val (.int p0), .val (.int p1), .val (.int (3 : Int32)), .val (.int v0), .val (.int v1), .val (.int v2), .val (.int v3), .val (.int v4), .val (.ref b796), .unset, .unset, .unset, .unset, .unset, .unset, .unset, .unset, .unset, .unset, .unset, .unset, .unset, .unset, .unset, .unset] [(.int (4 : Int32)), (.int (3 : Int32))])) _
      refine XS.icmpYes X993.here hx rfl (pc0 := 133) (pc' := 143) rfl (hb hby at_133) rfl (by decide) (by decide) (by decide) ?_
      show Steps p.tables e below (T993.setTop (mkF m 143 #[.val (.int p0), .val (.int p1), .val (.int (3 : Int32)), .val (.int v0), .val (.int v1), .val (.int v2), .val (.int v3), .val (.int v4), .val (.ref b796), .unset, .unset, .unset, .unset, .unset, .unset, .unset, .unset, .unset, .unset, .unset, .unset, .unset, .unset, .unset, .unset] [])) _
      refine XS.aload X993.here hx rfl (hb hby at_143) rfl rfl ?_
      show Steps p.tables e below (T993.setTop (mkF m 145 #[.val (.int p0), .val (.int p1), .val (.int (3 : Int32)), .val (.int v0), .val (.int v1), .val (.int v2), .val (.int v3), .val (.int v4), .val (.ref b796), .unset, .unset, .unset, .unset, .unset, .unset, .unset, .unset, .unset, .unset, .unset, .unset, .unset, .unset, .unset, .unset] [(.ref b796)])) _
      exact kq)
    have f999 := (Nat.le_trans f994 K993.1)
    have f1000 := (f995.keep K993)
    obtain ⟨cq998, kq998, q998a, q998b, q998c⟩ := isOf hZ rfl f1000
    obtain ⟨_, _, ⟨T998, L998, k998, n998⟩, -, X998, ⟨Lc998, hQ998, l998, y998, z998⟩, st998⟩ := X993.virtualBack hx (y := (⟨"com/example/tube2/tube2/trace/BooleanSignal", "order", "()[I"⟩ : MethodName)) (z := (⟨"com/example/tube2/tube2/trace/BooleanSignal", "order", "()[I"⟩ : MethodName)) hown (mvT hZ (hw _ (List.mem_of_getElem? (i := 23) rfl))) (mvT hZ (hw _ (List.mem_of_getElem? (i := 24) rfl))) (notFace_of_selects (args := #[]) (mvT hZ (hw _ (List.mem_of_getElem? (i := 26) rfl)))) (mvT hZ (hw _ (List.mem_of_getElem? (i := 26) rfl))) (mvT hZ (hw _ (List.mem_of_getElem? (i := 25) rfl))) (by decide) (backOf (W := 0) (rmO3 l Z a0 hw [] b796 vb802 kb802 v0 v1 v2 T993.heap n0 f999 F1993 F2993 A993 hb0 hb1 hb2) hZ (hw _ (List.mem_of_getElem? (i := 27) rfl)) (hw _ (List.mem_of_getElem? (i := 3) rfl)) (by decide) (by decide)) q998a q998c (g := (mkF m 145 #[.val (.int p0), .val (.int p1), .val (.int (3 : Int32)), .val (.int v0), .val (.int v1), .val (.int v2), .val (.int v3), .val (.int v4), .val (.ref b796), .unset, .unset, .unset, .unset, .unset, .unset, .unset, .unset, .unset, .unset, .unset, .unset, .unset, .unset, .unset, .unset] [(.ref b796)])) rfl (by rw [hml]; rfl) (Steps.refl _) (argsL := []) (rest := []) (lenOf pd_2 rfl) rfl (by show 2 * 0 + _ ≤ _; exact Nat.le_of_eq rfl) (hb hby at_145) (fun _ _ => ⟨rfl, rfl, (by decide : 4 + 1 ≤ _), (by decide : 1035 + 5 ≤ _)⟩)
    dsimp only [Pt.U, Pt.locs, Pt.cells, Pt.slots] at X998 l998 y998 z998 st998 hQ998
    obtain rfl : k998 = 5 := y998
    obtain rfl : n998 = 1040 := z998
    obtain ⟨r998, kr998, rfl, N998q, K998, A998⟩ := hQ998
    have N998 : Fr n0 L998 := by rw [l998]; exact Fr.app N993 N998q
    have G1001 : Go p e below A0 (T998.setTop (mkF m 148 #[.val (.int p0), .val (.int p1), .val (.int (3 : Int32)), .val (.int v0), .val (.int v1), .val (.int v2), .val (.int v3), .val (.int v4), .val (.ref b796), .unset, .unset, .unset, .unset, .unset, .unset, .unset, .unset, .unset, .unset, .unset, .unset, .unset, .unset, .unset, .unset] [(.ref r998)])) := fun tq kq => G997 tq (st998.trans kq)
    have G1002 : Go p e below A0 (T998.setTop (mkF m 150 #[.val (.int p0), .val (.int p1), .val (.int (3 : Int32)), .val (.int v0), .val (.int v1), .val (.int v2), .val (.int v3), .val (.int v4), .val (.ref b796), .val (.ref r998), .unset, .unset, .unset, .unset, .unset, .unset, .unset, .unset, .unset, .unset, .unset, .unset, .unset, .unset, .unset] [])) := fun tq kq => G1001 tq (by
      refine XS.astore X998.here hx rfl (hb hby at_148) rfl rfl (l' := #[.val (.int p0), .val (.int p1), .val (.int (3 : Int32)), .val (.int v0), .val (.int v1), .val (.int v2), .val (.int v3), .val (.int v4), .val (.ref b796), .val (.ref r998), .unset, .unset, .unset, .unset, .unset, .unset, .unset, .unset, .unset, .unset, .unset, .unset, .unset, .unset, .unset]) rfl ?_
      show Steps p.tables e below (T998.setTop (mkF m 150 #[.val (.int p0), .val (.int p1), .val (.int (3 : Int32)), .val (.int v0), .val (.int v1), .val (.int v2), .val (.int v3), .val (.int v4), .val (.ref b796), .val (.ref r998), .unset, .unset, .unset, .unset, .unset, .unset, .unset, .unset, .unset, .unset, .unset, .unset, .unset, .unset, .unset] [])) _
      exact kq)
    have f1003 := (Nat.le_trans f999 K998.1)
    have f1004 := (Nat.le_trans (Nat.le_trans (Nat.le_trans (Nat.le_trans (Nat.le_trans hk799 K802.1) K983.1) K988.1) K993.1) K998.1)
    exact cont (3 : Int32) (Or.inr (Or.inr (Or.inr (Or.inl rfl)))) _ _ _ _ _ X998 rfl N998 f1003 f1004 (show Af Z _ r998 kr998 .int (3 : Int32) (own_G (3 : Int32) v0 v1 v2 v3 v4) from A998) G1002
  · have G1005 : Go p e below A0 (T802.setTop (mkF m 85 #[.val (.int p0), .val (.int p1), .val (.int (4 : Int32)), .val (.int v0), .val (.int v1), .val (.int v2), .val (.int v3), .val (.int v4), .val (.ref b796), .unset, .unset, .unset, .unset, .unset, .unset, .unset, .unset, .unset, .unset, .unset, .unset, .unset, .unset, .unset, .unset] [])) := by
      have q := G809
      rw [hk] at q
      exact q
    have G1006 : Go p e below A0 (T802.setTop (mkF m 92 #[.val (.int p0), .val (.int p1), .val (.int (4 : Int32)), .val (.int v0), .val (.int v1), .val (.int v2), .val (.int v3), .val (.int v4), .val (.ref b796), .unset, .unset, .unset, .unset, .unset, .unset, .unset, .unset, .unset, .unset, .unset, .unset, .unset, .unset, .unset, .unset] [(.int v0), (.ref b796)])) := fun tq kq => G1005 tq (by
      refine XS.iloadN X802.here hx rfl (hb hby at_85) rfl ?_
      show Steps p.tables e below (T802.setTop (mkF m 86 #[.val (.int p0), .val (.int p1), .val (.int (4 : Int32)), .val (.int v0), .val (.int v1), .val (.int v2), .val (.int v3), .val (.int v4), .val (.ref b796), .unset, .unset, .unset, .unset, .unset, .unset, .unset, .unset, .unset, .unset, .unset, .unset, .unset, .unset, .unset, .unset] [(.int (4 : Int32))])) _
      refine XS.ifNo X802.here hx rfl (hb hby at_86) rfl (by decide) ?_
      show Steps p.tables e below (T802.setTop (mkF m 89 #[.val (.int p0), .val (.int p1), .val (.int (4 : Int32)), .val (.int v0), .val (.int v1), .val (.int v2), .val (.int v3), .val (.int v4), .val (.ref b796), .unset, .unset, .unset, .unset, .unset, .unset, .unset, .unset, .unset, .unset, .unset, .unset, .unset, .unset, .unset, .unset] [])) _
      refine XS.aload X802.here hx rfl (hb hby at_89) rfl rfl ?_
      show Steps p.tables e below (T802.setTop (mkF m 91 #[.val (.int p0), .val (.int p1), .val (.int (4 : Int32)), .val (.int v0), .val (.int v1), .val (.int v2), .val (.int v3), .val (.int v4), .val (.ref b796), .unset, .unset, .unset, .unset, .unset, .unset, .unset, .unset, .unset, .unset, .unset, .unset, .unset, .unset, .unset, .unset] [(.ref b796)])) _
      refine XS.iloadN X802.here hx rfl (hb hby at_91) rfl ?_
      show Steps p.tables e below (T802.setTop (mkF m 92 #[.val (.int p0), .val (.int p1), .val (.int (4 : Int32)), .val (.int v0), .val (.int v1), .val (.int v2), .val (.int v3), .val (.int v4), .val (.ref b796), .unset, .unset, .unset, .unset, .unset, .unset, .unset, .unset, .unset, .unset, .unset, .unset, .unset, .unset, .unset, .unset] [(.int v0), (.ref b796)])) _
      exact kq)
    have f1008 := (Nat.le_trans f803 K802.1)
    have f1009 := (f804.keep K802)
    obtain ⟨cq1007, kq1007, q1007a, q1007b, q1007c⟩ := isOf hZ rfl f1009
    obtain ⟨_, _, ⟨T1007, L1007, k1007, n1007⟩, -, X1007, ⟨Lc1007, hQ1007, l1007, y1007, z1007⟩, st1007⟩ := X802.virtualBack hx (y := (⟨"com/example/tube2/tube2/trace/BooleanSignal", "add", "(Z)V"⟩ : MethodName)) (z := (⟨"com/example/tube2/tube2/trace/BooleanSignal", "add", "(Z)V"⟩ : MethodName)) hown (mvT hZ (hw _ (List.mem_of_getElem? (i := 35) rfl))) (mvT hZ (hw _ (List.mem_of_getElem? (i := 36) rfl))) (notFace_of_selects (args := #[]) (mvT hZ (hw _ (List.mem_of_getElem? (i := 38) rfl)))) (mvT hZ (hw _ (List.mem_of_getElem? (i := 38) rfl))) (mvT hZ (hw _ (List.mem_of_getElem? (i := 37) rfl))) (by decide) (backOf (W := 0) (rmA0 l Z a0 hw [] b796 vb802 kb802 v0 T802.heap n0 f1008 f1009 F1802 F2802 A802 g_b796 gb802 nab802 hb0) hZ (hw _ (List.mem_of_getElem? (i := 39) rfl)) (hw _ (List.mem_of_getElem? (i := 3) rfl)) (by decide) (by decide)) q1007a q1007c (g := (mkF m 92 #[.val (.int p0), .val (.int p1), .val (.int (4 : Int32)), .val (.int v0), .val (.int v1), .val (.int v2), .val (.int v3), .val (.int v4), .val (.ref b796), .unset, .unset, .unset, .unset, .unset, .unset, .unset, .unset, .unset, .unset, .unset, .unset, .unset, .unset, .unset, .unset] [(.int v0), (.ref b796)])) rfl (by rw [hml]; rfl) (Steps.refl _) (argsL := [(.int v0)]) (rest := []) (lenOf pd_3 rfl) rfl (by show 2 * 0 + _ ≤ _; exact Nat.le_of_eq rfl) (hb hby at_92) (fun _ _ => ⟨rfl, rfl, (by decide : 4 + 0 ≤ _), (by decide : 1035 + 0 ≤ _)⟩)
    dsimp only [Pt.U, Pt.locs, Pt.cells, Pt.slots] at X1007 l1007 y1007 z1007 st1007 hQ1007
    obtain rfl : k1007 = 4 := y1007
    obtain rfl : n1007 = 1035 := z1007
    obtain ⟨rfl, N1007q, K1007, F11007, F21007, A1007⟩ := hQ1007
    have N1007 : Fr n0 L1007 := by rw [l1007]; exact Fr.app N802 N1007q
    have G1010 : Go p e below A0 (T1007.setTop (mkF m 95 #[.val (.int p0), .val (.int p1), .val (.int (4 : Int32)), .val (.int v0), .val (.int v1), .val (.int v2), .val (.int v3), .val (.int v4), .val (.ref b796), .unset, .unset, .unset, .unset, .unset, .unset, .unset, .unset, .unset, .unset, .unset, .unset, .unset, .unset, .unset, .unset] [])) := fun tq kq => G1006 tq (st1007.trans kq)
    have G1011 : Go p e below A0 (T1007.setTop (mkF m 104 #[.val (.int p0), .val (.int p1), .val (.int (4 : Int32)), .val (.int v0), .val (.int v1), .val (.int v2), .val (.int v3), .val (.int v4), .val (.ref b796), .unset, .unset, .unset, .unset, .unset, .unset, .unset, .unset, .unset, .unset, .unset, .unset, .unset, .unset, .unset, .unset] [(.int v1), (.ref b796)])) := fun tq kq => G1010 tq (by
      refine XS.iloadN X1007.here hx rfl (hb hby at_95) rfl ?_
      show Steps p.tables e below (T1007.setTop (mkF m 96 #[.val (.int p0), .val (.int p1), .val (.int (4 : Int32)), .val (.int v0), .val (.int v1), .val (.int v2), .val (.int v3), .val (.int v4), .val (.ref b796), .unset, .unset, .unset, .unset, .unset, .unset, .unset, .unset, .unset, .unset, .unset, .unset, .unset, .unset, .unset, .unset] [(.int (4 : Int32))])) _
      refine XS.iconst X1007.here hx rfl (hb hby at_96) ?_
      show Steps p.tables e below (T1007.setTop (mkF m 97 #[.val (.int p0), .val (.int p1), .val (.int (4 : Int32)), .val (.int v0), .val (.int v1), .val (.int v2), .val (.int v3), .val (.int v4), .val (.ref b796), .unset, .unset, .unset, .unset, .unset, .unset, .unset, .unset, .unset, .unset, .unset, .unset, .unset, .unset, .unset, .unset] [(.int (1 : Int32)), (.int (4 : Int32))])) _
      refine XS.icmpNo X1007.here hx rfl (hb hby at_97) rfl (by decide) ?_
      show Steps p.tables e below (T1007.setTop (mkF m 100 #[.val (.int p0), .val (.int p1), .val (.int (4 : Int32)), .val (.int v0), .val (.int v1), .val (.int v2), .val (.int v3), .val (.int v4), .val (.ref b796), .unset, .unset, .unset, .unset, .unset, .unset, .unset, .unset, .unset, .unset, .unset, .unset, .unset, .unset, .unset, .unset] [])) _
      refine XS.aload X1007.here hx rfl (hb hby at_100) rfl rfl ?_
      show Steps p.tables e below (T1007.setTop (mkF m 102 #[.val (.int p0), .val (.int p1), .val (.int (4 : Int32)), .val (.int v0), .val (.int v1), .val (.int v2), .val (.int v3), .val (.int v4), .val (.ref b796), .unset, .unset, .unset, .unset, .unset, .unset, .unset, .unset, .unset, .unset, .unset, .unset, .unset, .unset, .unset, .unset] [(.ref b796)])) _
      refine XS.iload X1007.here hx rfl (hb hby at_102) rfl ?_
      show Steps p.tables e below (T1007.setTop (mkF m 104 #[.val (.int p0), .val (.int p1), .val (.int (4 : Int32)), .val (.int v0), .val (.int v1), .val (.int v2), .val (.int v3), .val (.int v4), .val (.ref b796), .unset, .unset, .unset, .unset, .unset, .unset, .unset, .unset, .unset, .unset, .unset, .unset, .unset, .unset, .unset, .unset] [(.int v1), (.ref b796)])) _
      exact kq)
    have f1013 := (Nat.le_trans f1008 K1007.1)
    have f1014 := (f1009.keep K1007)
    obtain ⟨cq1012, kq1012, q1012a, q1012b, q1012c⟩ := isOf hZ rfl f1014
    obtain ⟨_, _, ⟨T1012, L1012, k1012, n1012⟩, -, X1012, ⟨Lc1012, hQ1012, l1012, y1012, z1012⟩, st1012⟩ := X1007.virtualBack hx (y := (⟨"com/example/tube2/tube2/trace/BooleanSignal", "add", "(Z)V"⟩ : MethodName)) (z := (⟨"com/example/tube2/tube2/trace/BooleanSignal", "add", "(Z)V"⟩ : MethodName)) hown (mvT hZ (hw _ (List.mem_of_getElem? (i := 35) rfl))) (mvT hZ (hw _ (List.mem_of_getElem? (i := 36) rfl))) (notFace_of_selects (args := #[]) (mvT hZ (hw _ (List.mem_of_getElem? (i := 38) rfl)))) (mvT hZ (hw _ (List.mem_of_getElem? (i := 38) rfl))) (mvT hZ (hw _ (List.mem_of_getElem? (i := 37) rfl))) (by decide) (backOf (W := 0) (rmA1 l Z a0 hw [] b796 vb802 kb802 v0 v1 T1007.heap n0 f1013 f1014 F11007 F21007 A1007 g_b796 gb802 nab802 hb1) hZ (hw _ (List.mem_of_getElem? (i := 39) rfl)) (hw _ (List.mem_of_getElem? (i := 3) rfl)) (by decide) (by decide)) q1012a q1012c (g := (mkF m 104 #[.val (.int p0), .val (.int p1), .val (.int (4 : Int32)), .val (.int v0), .val (.int v1), .val (.int v2), .val (.int v3), .val (.int v4), .val (.ref b796), .unset, .unset, .unset, .unset, .unset, .unset, .unset, .unset, .unset, .unset, .unset, .unset, .unset, .unset, .unset, .unset] [(.int v1), (.ref b796)])) rfl (by rw [hml]; rfl) (Steps.refl _) (argsL := [(.int v1)]) (rest := []) (lenOf pd_3 rfl) rfl (by show 2 * 0 + _ ≤ _; exact Nat.le_of_eq rfl) (hb hby at_104) (fun _ _ => ⟨rfl, rfl, (by decide : 4 + 0 ≤ _), (by decide : 1035 + 0 ≤ _)⟩)
    dsimp only [Pt.U, Pt.locs, Pt.cells, Pt.slots] at X1012 l1012 y1012 z1012 st1012 hQ1012
    obtain rfl : k1012 = 4 := y1012
    obtain rfl : n1012 = 1035 := z1012
    obtain ⟨rfl, N1012q, K1012, F11012, F21012, A1012⟩ := hQ1012
    have N1012 : Fr n0 L1012 := by rw [l1012]; exact Fr.app N1007 N1012q
    have G1015 : Go p e below A0 (T1012.setTop (mkF m 107 #[.val (.int p0), .val (.int p1), .val (.int (4 : Int32)), .val (.int v0), .val (.int v1), .val (.int v2), .val (.int v3), .val (.int v4), .val (.ref b796), .unset, .unset, .unset, .unset, .unset, .unset, .unset, .unset, .unset, .unset, .unset, .unset, .unset, .unset, .unset, .unset] [])) := fun tq kq => G1011 tq (st1012.trans kq)
    have G1016 : Go p e below A0 (T1012.setTop (mkF m 116 #[.val (.int p0), .val (.int p1), .val (.int (4 : Int32)), .val (.int v0), .val (.int v1), .val (.int v2), .val (.int v3), .val (.int v4), .val (.ref b796), .unset, .unset, .unset, .unset, .unset, .unset, .unset, .unset, .unset, .unset, .unset, .unset, .unset, .unset, .unset, .unset] [(.int v2), (.ref b796)])) := fun tq kq => G1015 tq (by
      refine XS.iloadN X1012.here hx rfl (hb hby at_107) rfl ?_
      show Steps p.tables e below (T1012.setTop (mkF m 108 #[.val (.int p0), .val (.int p1), .val (.int (4 : Int32)), .val (.int v0), .val (.int v1), .val (.int v2), .val (.int v3), .val (.int v4), .val (.ref b796), .unset, .unset, .unset, .unset, .unset, .unset, .unset, .unset, .unset, .unset, .unset, .unset, .unset, .unset, .unset, .unset] [(.int (4 : Int32))])) _
      refine XS.iconst X1012.here hx rfl (hb hby at_108) ?_
      show Steps p.tables e below (T1012.setTop (mkF m 109 #[.val (.int p0), .val (.int p1), .val (.int (4 : Int32)), .val (.int v0), .val (.int v1), .val (.int v2), .val (.int v3), .val (.int v4), .val (.ref b796), .unset, .unset, .unset, .unset, .unset, .unset, .unset, .unset, .unset, .unset, .unset, .unset, .unset, .unset, .unset, .unset] [(.int (2 : Int32)), (.int (4 : Int32))])) _
      refine XS.icmpNo X1012.here hx rfl (hb hby at_109) rfl (by decide) ?_
      show Steps p.tables e below (T1012.setTop (mkF m 112 #[.val (.int p0), .val (.int p1), .val (.int (4 : Int32)), .val (.int v0), .val (.int v1), .val (.int v2), .val (.int v3), .val (.int v4), .val (.ref b796), .unset, .unset, .unset, .unset, .unset, .unset, .unset, .unset, .unset, .unset, .unset, .unset, .unset, .unset, .unset, .unset] [])) _
      refine XS.aload X1012.here hx rfl (hb hby at_112) rfl rfl ?_
      show Steps p.tables e below (T1012.setTop (mkF m 114 #[.val (.int p0), .val (.int p1), .val (.int (4 : Int32)), .val (.int v0), .val (.int v1), .val (.int v2), .val (.int v3), .val (.int v4), .val (.ref b796), .unset, .unset, .unset, .unset, .unset, .unset, .unset, .unset, .unset, .unset, .unset, .unset, .unset, .unset, .unset, .unset] [(.ref b796)])) _
      refine XS.iload X1012.here hx rfl (hb hby at_114) rfl ?_
      show Steps p.tables e below (T1012.setTop (mkF m 116 #[.val (.int p0), .val (.int p1), .val (.int (4 : Int32)), .val (.int v0), .val (.int v1), .val (.int v2), .val (.int v3), .val (.int v4), .val (.ref b796), .unset, .unset, .unset, .unset, .unset, .unset, .unset, .unset, .unset, .unset, .unset, .unset, .unset, .unset, .unset, .unset] [(.int v2), (.ref b796)])) _
      exact kq)
    have f1018 := (Nat.le_trans f1013 K1012.1)
    have f1019 := (f1014.keep K1012)
    obtain ⟨cq1017, kq1017, q1017a, q1017b, q1017c⟩ := isOf hZ rfl f1019
    obtain ⟨_, _, ⟨T1017, L1017, k1017, n1017⟩, -, X1017, ⟨Lc1017, hQ1017, l1017, y1017, z1017⟩, st1017⟩ := X1012.virtualBack hx (y := (⟨"com/example/tube2/tube2/trace/BooleanSignal", "add", "(Z)V"⟩ : MethodName)) (z := (⟨"com/example/tube2/tube2/trace/BooleanSignal", "add", "(Z)V"⟩ : MethodName)) hown (mvT hZ (hw _ (List.mem_of_getElem? (i := 35) rfl))) (mvT hZ (hw _ (List.mem_of_getElem? (i := 36) rfl))) (notFace_of_selects (args := #[]) (mvT hZ (hw _ (List.mem_of_getElem? (i := 38) rfl)))) (mvT hZ (hw _ (List.mem_of_getElem? (i := 38) rfl))) (mvT hZ (hw _ (List.mem_of_getElem? (i := 37) rfl))) (by decide) (backOf (W := 0) (rmA2 l Z a0 hw [] b796 vb802 kb802 v0 v1 v2 T1012.heap n0 f1018 f1019 F11012 F21012 A1012 g_b796 gb802 nab802 hb2) hZ (hw _ (List.mem_of_getElem? (i := 39) rfl)) (hw _ (List.mem_of_getElem? (i := 3) rfl)) (by decide) (by decide)) q1017a q1017c (g := (mkF m 116 #[.val (.int p0), .val (.int p1), .val (.int (4 : Int32)), .val (.int v0), .val (.int v1), .val (.int v2), .val (.int v3), .val (.int v4), .val (.ref b796), .unset, .unset, .unset, .unset, .unset, .unset, .unset, .unset, .unset, .unset, .unset, .unset, .unset, .unset, .unset, .unset] [(.int v2), (.ref b796)])) rfl (by rw [hml]; rfl) (Steps.refl _) (argsL := [(.int v2)]) (rest := []) (lenOf pd_3 rfl) rfl (by show 2 * 0 + _ ≤ _; exact Nat.le_of_eq rfl) (hb hby at_116) (fun _ _ => ⟨rfl, rfl, (by decide : 4 + 0 ≤ _), (by decide : 1035 + 0 ≤ _)⟩)
    dsimp only [Pt.U, Pt.locs, Pt.cells, Pt.slots] at X1017 l1017 y1017 z1017 st1017 hQ1017
    obtain rfl : k1017 = 4 := y1017
    obtain rfl : n1017 = 1035 := z1017
    obtain ⟨rfl, N1017q, K1017, F11017, F21017, A1017⟩ := hQ1017
    have N1017 : Fr n0 L1017 := by rw [l1017]; exact Fr.app N1012 N1017q
    have G1020 : Go p e below A0 (T1017.setTop (mkF m 119 #[.val (.int p0), .val (.int p1), .val (.int (4 : Int32)), .val (.int v0), .val (.int v1), .val (.int v2), .val (.int v3), .val (.int v4), .val (.ref b796), .unset, .unset, .unset, .unset, .unset, .unset, .unset, .unset, .unset, .unset, .unset, .unset, .unset, .unset, .unset, .unset] [])) := fun tq kq => G1016 tq (st1017.trans kq)
    have G1021 : Go p e below A0 (T1017.setTop (mkF m 128 #[.val (.int p0), .val (.int p1), .val (.int (4 : Int32)), .val (.int v0), .val (.int v1), .val (.int v2), .val (.int v3), .val (.int v4), .val (.ref b796), .unset, .unset, .unset, .unset, .unset, .unset, .unset, .unset, .unset, .unset, .unset, .unset, .unset, .unset, .unset, .unset] [(.int v3), (.ref b796)])) := fun tq kq => G1020 tq (by
      refine XS.iloadN X1017.here hx rfl (hb hby at_119) rfl ?_
      show Steps p.tables e below (T1017.setTop (mkF m 120 #[.val (.int p0), .val (.int p1), .val (.int (4 : Int32)), .val (.int v0), .val (.int v1), .val (.int v2), .val (.int v3), .val (.int v4), .val (.ref b796), .unset, .unset, .unset, .unset, .unset, .unset, .unset, .unset, .unset, .unset, .unset, .unset, .unset, .unset, .unset, .unset] [(.int (4 : Int32))])) _
      refine XS.iconst X1017.here hx rfl (hb hby at_120) ?_
      show Steps p.tables e below (T1017.setTop (mkF m 121 #[.val (.int p0), .val (.int p1), .val (.int (4 : Int32)), .val (.int v0), .val (.int v1), .val (.int v2), .val (.int v3), .val (.int v4), .val (.ref b796), .unset, .unset, .unset, .unset, .unset, .unset, .unset, .unset, .unset, .unset, .unset, .unset, .unset, .unset, .unset, .unset] [(.int (3 : Int32)), (.int (4 : Int32))])) _
      refine XS.icmpNo X1017.here hx rfl (hb hby at_121) rfl (by decide) ?_
      show Steps p.tables e below (T1017.setTop (mkF m 124 #[.val (.int p0), .val (.int p1), .val (.int (4 : Int32)), .val (.int v0), .val (.int v1), .val (.int v2), .val (.int v3), .val (.int v4), .val (.ref b796), .unset, .unset, .unset, .unset, .unset, .unset, .unset, .unset, .unset, .unset, .unset, .unset, .unset, .unset, .unset, .unset] [])) _
      refine XS.aload X1017.here hx rfl (hb hby at_124) rfl rfl ?_
      show Steps p.tables e below (T1017.setTop (mkF m 126 #[.val (.int p0), .val (.int p1), .val (.int (4 : Int32)), .val (.int v0), .val (.int v1), .val (.int v2), .val (.int v3), .val (.int v4), .val (.ref b796), .unset, .unset, .unset, .unset, .unset, .unset, .unset, .unset, .unset, .unset, .unset, .unset, .unset, .unset, .unset, .unset] [(.ref b796)])) _
      refine XS.iload X1017.here hx rfl (hb hby at_126) rfl ?_
      show Steps p.tables e below (T1017.setTop (mkF m 128 #[.val (.int p0), .val (.int p1), .val (.int (4 : Int32)), .val (.int v0), .val (.int v1), .val (.int v2), .val (.int v3), .val (.int v4), .val (.ref b796), .unset, .unset, .unset, .unset, .unset, .unset, .unset, .unset, .unset, .unset, .unset, .unset, .unset, .unset, .unset, .unset] [(.int v3), (.ref b796)])) _
      exact kq)
    have f1023 := (Nat.le_trans f1018 K1017.1)
    have f1024 := (f1019.keep K1017)
    obtain ⟨cq1022, kq1022, q1022a, q1022b, q1022c⟩ := isOf hZ rfl f1024
    obtain ⟨_, _, ⟨T1022, L1022, k1022, n1022⟩, -, X1022, ⟨Lc1022, hQ1022, l1022, y1022, z1022⟩, st1022⟩ := X1017.virtualBack hx (y := (⟨"com/example/tube2/tube2/trace/BooleanSignal", "add", "(Z)V"⟩ : MethodName)) (z := (⟨"com/example/tube2/tube2/trace/BooleanSignal", "add", "(Z)V"⟩ : MethodName)) hown (mvT hZ (hw _ (List.mem_of_getElem? (i := 35) rfl))) (mvT hZ (hw _ (List.mem_of_getElem? (i := 36) rfl))) (notFace_of_selects (args := #[]) (mvT hZ (hw _ (List.mem_of_getElem? (i := 38) rfl)))) (mvT hZ (hw _ (List.mem_of_getElem? (i := 38) rfl))) (mvT hZ (hw _ (List.mem_of_getElem? (i := 37) rfl))) (by decide) (backOf (W := 0) (rmA3 l Z a0 hw [] b796 vb802 kb802 v0 v1 v2 v3 T1017.heap n0 f1023 f1024 F11017 F21017 A1017 g_b796 gb802 nab802 hb3) hZ (hw _ (List.mem_of_getElem? (i := 39) rfl)) (hw _ (List.mem_of_getElem? (i := 3) rfl)) (by decide) (by decide)) q1022a q1022c (g := (mkF m 128 #[.val (.int p0), .val (.int p1), .val (.int (4 : Int32)), .val (.int v0), .val (.int v1), .val (.int v2), .val (.int v3), .val (.int v4), .val (.ref b796), .unset, .unset, .unset, .unset, .unset, .unset, .unset, .unset, .unset, .unset, .unset, .unset, .unset, .unset, .unset, .unset] [(.int v3), (.ref b796)])) rfl (by rw [hml]; rfl) (Steps.refl _) (argsL := [(.int v3)]) (rest := []) (lenOf pd_3 rfl) rfl (by show 2 * 0 + _ ≤ _; exact Nat.le_of_eq rfl) (hb hby at_128) (fun _ _ => ⟨rfl, rfl, (by decide : 4 + 0 ≤ _), (by decide : 1035 + 0 ≤ _)⟩)
    dsimp only [Pt.U, Pt.locs, Pt.cells, Pt.slots] at X1022 l1022 y1022 z1022 st1022 hQ1022
    obtain rfl : k1022 = 4 := y1022
    obtain rfl : n1022 = 1035 := z1022
    obtain ⟨rfl, N1022q, K1022, F11022, F21022, A1022⟩ := hQ1022
    have N1022 : Fr n0 L1022 := by rw [l1022]; exact Fr.app N1017 N1022q
    have G1025 : Go p e below A0 (T1022.setTop (mkF m 131 #[.val (.int p0), .val (.int p1), .val (.int (4 : Int32)), .val (.int v0), .val (.int v1), .val (.int v2), .val (.int v3), .val (.int v4), .val (.ref b796), .unset, .unset, .unset, .unset, .unset, .unset, .unset, .unset, .unset, .unset, .unset, .unset, .unset, .unset, .unset, .unset] [])) := fun tq kq => G1021 tq (st1022.trans kq)
    have G1026 : Go p e below A0 (T1022.setTop (mkF m 145 #[.val (.int p0), .val (.int p1), .val (.int (4 : Int32)), .val (.int v0), .val (.int v1), .val (.int v2), .val (.int v3), .val (.int v4), .val (.ref b796), .unset, .unset, .unset, .unset, .unset, .unset, .unset, .unset, .unset, .unset, .unset, .unset, .unset, .unset, .unset, .unset] [(.ref b796)])) := fun tq kq => G1025 tq (by
      refine XS.iloadN X1022.here hx rfl (hb hby at_131) rfl ?_
      show Steps p.tables e below (T1022.setTop (mkF m 132 #[.val (.int p0), .val (.int p1), .val (.int (4 : Int32)), .val (.int v0), .val (.int v1), .val (.int v2), .val (.int v3), .val (.int v4), .val (.ref b796), .unset, .unset, .unset, .unset, .unset, .unset, .unset, .unset, .unset, .unset, .unset, .unset, .unset, .unset, .unset, .unset] [(.int (4 : Int32))])) _
      refine XS.iconst X1022.here hx rfl (hb hby at_132) ?_
      show Steps p.tables e below (T1022.setTop (mkF m 133 #[.val (.int p0), .val (.int p1), .val (.int (4 : Int32)), .val (.int v0), .val (.int v1), .val (.int v2), .val (.int v3), .val (.int v4), .val (.ref b796), .unset, .unset, .unset, .unset, .unset, .unset, .unset, .unset, .unset, .unset, .unset, .unset, .unset, .unset, .unset, .unset] [(.int (4 : Int32)), (.int (4 : Int32))])) _
      refine XS.icmpYes X1022.here hx rfl (pc0 := 133) (pc' := 143) rfl (hb hby at_133) rfl (by decide) (by decide) (by decide) ?_
      show Steps p.tables e below (T1022.setTop (mkF m 143 #[.val (.int p0), .val (.int p1), .val (.int (4 : Int32)), .val (.int v0), .val (.int v1), .val (.int v2), .val (.int v3), .val (.int v4), .val (.ref b796), .unset, .unset, .unset, .unset, .unset, .unset, .unset, .unset, .unset, .unset, .unset, .unset, .unset, .unset, .unset, .unset] [])) _
      refine XS.aload X1022.here hx rfl (hb hby at_143) rfl rfl ?_
      show Steps p.tables e below (T1022.setTop (mkF m 145 #[.val (.int p0), .val (.int p1), .val (.int (4 : Int32)), .val (.int v0), .val (.int v1), .val (.int v2), .val (.int v3), .val (.int v4), .val (.ref b796), .unset, .unset, .unset, .unset, .unset, .unset, .unset, .unset, .unset, .unset, .unset, .unset, .unset, .unset, .unset, .unset] [(.ref b796)])) _
      exact kq)
    have f1028 := (Nat.le_trans f1023 K1022.1)
    have f1029 := (f1024.keep K1022)
    obtain ⟨cq1027, kq1027, q1027a, q1027b, q1027c⟩ := isOf hZ rfl f1029
    obtain ⟨_, _, ⟨T1027, L1027, k1027, n1027⟩, -, X1027, ⟨Lc1027, hQ1027, l1027, y1027, z1027⟩, st1027⟩ := X1022.virtualBack hx (y := (⟨"com/example/tube2/tube2/trace/BooleanSignal", "order", "()[I"⟩ : MethodName)) (z := (⟨"com/example/tube2/tube2/trace/BooleanSignal", "order", "()[I"⟩ : MethodName)) hown (mvT hZ (hw _ (List.mem_of_getElem? (i := 23) rfl))) (mvT hZ (hw _ (List.mem_of_getElem? (i := 24) rfl))) (notFace_of_selects (args := #[]) (mvT hZ (hw _ (List.mem_of_getElem? (i := 26) rfl)))) (mvT hZ (hw _ (List.mem_of_getElem? (i := 26) rfl))) (mvT hZ (hw _ (List.mem_of_getElem? (i := 25) rfl))) (by decide) (backOf (W := 0) (rmO4 l Z a0 hw [] b796 vb802 kb802 v0 v1 v2 v3 T1022.heap n0 f1028 F11022 F21022 A1022 hb0 hb1 hb2 hb3) hZ (hw _ (List.mem_of_getElem? (i := 27) rfl)) (hw _ (List.mem_of_getElem? (i := 3) rfl)) (by decide) (by decide)) q1027a q1027c (g := (mkF m 145 #[.val (.int p0), .val (.int p1), .val (.int (4 : Int32)), .val (.int v0), .val (.int v1), .val (.int v2), .val (.int v3), .val (.int v4), .val (.ref b796), .unset, .unset, .unset, .unset, .unset, .unset, .unset, .unset, .unset, .unset, .unset, .unset, .unset, .unset, .unset, .unset] [(.ref b796)])) rfl (by rw [hml]; rfl) (Steps.refl _) (argsL := []) (rest := []) (lenOf pd_2 rfl) rfl (by show 2 * 0 + _ ≤ _; exact Nat.le_of_eq rfl) (hb hby at_145) (fun _ _ => ⟨rfl, rfl, (by decide : 4 + 1 ≤ _), (by decide : 1035 + 5 ≤ _)⟩)
    dsimp only [Pt.U, Pt.locs, Pt.cells, Pt.slots] at X1027 l1027 y1027 z1027 st1027 hQ1027
    obtain rfl : k1027 = 5 := y1027
    obtain rfl : n1027 = 1040 := z1027
    obtain ⟨r1027, kr1027, rfl, N1027q, K1027, A1027⟩ := hQ1027
    have N1027 : Fr n0 L1027 := by rw [l1027]; exact Fr.app N1022 N1027q
    have G1030 : Go p e below A0 (T1027.setTop (mkF m 148 #[.val (.int p0), .val (.int p1), .val (.int (4 : Int32)), .val (.int v0), .val (.int v1), .val (.int v2), .val (.int v3), .val (.int v4), .val (.ref b796), .unset, .unset, .unset, .unset, .unset, .unset, .unset, .unset, .unset, .unset, .unset, .unset, .unset, .unset, .unset, .unset] [(.ref r1027)])) := fun tq kq => G1026 tq (st1027.trans kq)
    have G1031 : Go p e below A0 (T1027.setTop (mkF m 150 #[.val (.int p0), .val (.int p1), .val (.int (4 : Int32)), .val (.int v0), .val (.int v1), .val (.int v2), .val (.int v3), .val (.int v4), .val (.ref b796), .val (.ref r1027), .unset, .unset, .unset, .unset, .unset, .unset, .unset, .unset, .unset, .unset, .unset, .unset, .unset, .unset, .unset] [])) := fun tq kq => G1030 tq (by
      refine XS.astore X1027.here hx rfl (hb hby at_148) rfl rfl (l' := #[.val (.int p0), .val (.int p1), .val (.int (4 : Int32)), .val (.int v0), .val (.int v1), .val (.int v2), .val (.int v3), .val (.int v4), .val (.ref b796), .val (.ref r1027), .unset, .unset, .unset, .unset, .unset, .unset, .unset, .unset, .unset, .unset, .unset, .unset, .unset, .unset, .unset]) rfl ?_
      show Steps p.tables e below (T1027.setTop (mkF m 150 #[.val (.int p0), .val (.int p1), .val (.int (4 : Int32)), .val (.int v0), .val (.int v1), .val (.int v2), .val (.int v3), .val (.int v4), .val (.ref b796), .val (.ref r1027), .unset, .unset, .unset, .unset, .unset, .unset, .unset, .unset, .unset, .unset, .unset, .unset, .unset, .unset, .unset] [])) _
      exact kq)
    have f1032 := (Nat.le_trans f1028 K1027.1)
    have f1033 := (Nat.le_trans (Nat.le_trans (Nat.le_trans (Nat.le_trans (Nat.le_trans (Nat.le_trans hk799 K802.1) K1007.1) K1012.1) K1017.1) K1022.1) K1027.1)
    exact cont (4 : Int32) (Or.inr (Or.inr (Or.inr (Or.inr (Or.inl rfl))))) _ _ _ _ _ X1027 rfl N1027 f1032 f1033 (show Af Z _ r1027 kr1027 .int (4 : Int32) (own_G (4 : Int32) v0 v1 v2 v3 v4) from A1027) G1031
  · have G1034 : Go p e below A0 (T802.setTop (mkF m 85 #[.val (.int p0), .val (.int p1), .val (.int (5 : Int32)), .val (.int v0), .val (.int v1), .val (.int v2), .val (.int v3), .val (.int v4), .val (.ref b796), .unset, .unset, .unset, .unset, .unset, .unset, .unset, .unset, .unset, .unset, .unset, .unset, .unset, .unset, .unset, .unset] [])) := by
      have q := G809
      rw [hk] at q
      exact q
    have G1035 : Go p e below A0 (T802.setTop (mkF m 92 #[.val (.int p0), .val (.int p1), .val (.int (5 : Int32)), .val (.int v0), .val (.int v1), .val (.int v2), .val (.int v3), .val (.int v4), .val (.ref b796), .unset, .unset, .unset, .unset, .unset, .unset, .unset, .unset, .unset, .unset, .unset, .unset, .unset, .unset, .unset, .unset] [(.int v0), (.ref b796)])) := fun tq kq => G1034 tq (by
      refine XS.iloadN X802.here hx rfl (hb hby at_85) rfl ?_
      show Steps p.tables e below (T802.setTop (mkF m 86 #[.val (.int p0), .val (.int p1), .val (.int (5 : Int32)), .val (.int v0), .val (.int v1), .val (.int v2), .val (.int v3), .val (.int v4), .val (.ref b796), .unset, .unset, .unset, .unset, .unset, .unset, .unset, .unset, .unset, .unset, .unset, .unset, .unset, .unset, .unset, .unset] [(.int (5 : Int32))])) _
      refine XS.ifNo X802.here hx rfl (hb hby at_86) rfl (by decide) ?_
      show Steps p.tables e below (T802.setTop (mkF m 89 #[.val (.int p0), .val (.int p1), .val (.int (5 : Int32)), .val (.int v0), .val (.int v1), .val (.int v2), .val (.int v3), .val (.int v4), .val (.ref b796), .unset, .unset, .unset, .unset, .unset, .unset, .unset, .unset, .unset, .unset, .unset, .unset, .unset, .unset, .unset, .unset] [])) _
      refine XS.aload X802.here hx rfl (hb hby at_89) rfl rfl ?_
      show Steps p.tables e below (T802.setTop (mkF m 91 #[.val (.int p0), .val (.int p1), .val (.int (5 : Int32)), .val (.int v0), .val (.int v1), .val (.int v2), .val (.int v3), .val (.int v4), .val (.ref b796), .unset, .unset, .unset, .unset, .unset, .unset, .unset, .unset, .unset, .unset, .unset, .unset, .unset, .unset, .unset, .unset] [(.ref b796)])) _
      refine XS.iloadN X802.here hx rfl (hb hby at_91) rfl ?_
      show Steps p.tables e below (T802.setTop (mkF m 92 #[.val (.int p0), .val (.int p1), .val (.int (5 : Int32)), .val (.int v0), .val (.int v1), .val (.int v2), .val (.int v3), .val (.int v4), .val (.ref b796), .unset, .unset, .unset, .unset, .unset, .unset, .unset, .unset, .unset, .unset, .unset, .unset, .unset, .unset, .unset, .unset] [(.int v0), (.ref b796)])) _
      exact kq)
    have f1037 := (Nat.le_trans f803 K802.1)
    have f1038 := (f804.keep K802)
    obtain ⟨cq1036, kq1036, q1036a, q1036b, q1036c⟩ := isOf hZ rfl f1038
    obtain ⟨_, _, ⟨T1036, L1036, k1036, n1036⟩, -, X1036, ⟨Lc1036, hQ1036, l1036, y1036, z1036⟩, st1036⟩ := X802.virtualBack hx (y := (⟨"com/example/tube2/tube2/trace/BooleanSignal", "add", "(Z)V"⟩ : MethodName)) (z := (⟨"com/example/tube2/tube2/trace/BooleanSignal", "add", "(Z)V"⟩ : MethodName)) hown (mvT hZ (hw _ (List.mem_of_getElem? (i := 35) rfl))) (mvT hZ (hw _ (List.mem_of_getElem? (i := 36) rfl))) (notFace_of_selects (args := #[]) (mvT hZ (hw _ (List.mem_of_getElem? (i := 38) rfl)))) (mvT hZ (hw _ (List.mem_of_getElem? (i := 38) rfl))) (mvT hZ (hw _ (List.mem_of_getElem? (i := 37) rfl))) (by decide) (backOf (W := 0) (rmA0 l Z a0 hw [] b796 vb802 kb802 v0 T802.heap n0 f1037 f1038 F1802 F2802 A802 g_b796 gb802 nab802 hb0) hZ (hw _ (List.mem_of_getElem? (i := 39) rfl)) (hw _ (List.mem_of_getElem? (i := 3) rfl)) (by decide) (by decide)) q1036a q1036c (g := (mkF m 92 #[.val (.int p0), .val (.int p1), .val (.int (5 : Int32)), .val (.int v0), .val (.int v1), .val (.int v2), .val (.int v3), .val (.int v4), .val (.ref b796), .unset, .unset, .unset, .unset, .unset, .unset, .unset, .unset, .unset, .unset, .unset, .unset, .unset, .unset, .unset, .unset] [(.int v0), (.ref b796)])) rfl (by rw [hml]; rfl) (Steps.refl _) (argsL := [(.int v0)]) (rest := []) (lenOf pd_3 rfl) rfl (by show 2 * 0 + _ ≤ _; exact Nat.le_of_eq rfl) (hb hby at_92) (fun _ _ => ⟨rfl, rfl, (by decide : 4 + 0 ≤ _), (by decide : 1035 + 0 ≤ _)⟩)
    dsimp only [Pt.U, Pt.locs, Pt.cells, Pt.slots] at X1036 l1036 y1036 z1036 st1036 hQ1036
    obtain rfl : k1036 = 4 := y1036
    obtain rfl : n1036 = 1035 := z1036
    obtain ⟨rfl, N1036q, K1036, F11036, F21036, A1036⟩ := hQ1036
    have N1036 : Fr n0 L1036 := by rw [l1036]; exact Fr.app N802 N1036q
    have G1039 : Go p e below A0 (T1036.setTop (mkF m 95 #[.val (.int p0), .val (.int p1), .val (.int (5 : Int32)), .val (.int v0), .val (.int v1), .val (.int v2), .val (.int v3), .val (.int v4), .val (.ref b796), .unset, .unset, .unset, .unset, .unset, .unset, .unset, .unset, .unset, .unset, .unset, .unset, .unset, .unset, .unset, .unset] [])) := fun tq kq => G1035 tq (st1036.trans kq)
    have G1040 : Go p e below A0 (T1036.setTop (mkF m 104 #[.val (.int p0), .val (.int p1), .val (.int (5 : Int32)), .val (.int v0), .val (.int v1), .val (.int v2), .val (.int v3), .val (.int v4), .val (.ref b796), .unset, .unset, .unset, .unset, .unset, .unset, .unset, .unset, .unset, .unset, .unset, .unset, .unset, .unset, .unset, .unset] [(.int v1), (.ref b796)])) := fun tq kq => G1039 tq (by
      refine XS.iloadN X1036.here hx rfl (hb hby at_95) rfl ?_
      show Steps p.tables e below (T1036.setTop (mkF m 96 #[.val (.int p0), .val (.int p1), .val (.int (5 : Int32)), .val (.int v0), .val (.int v1), .val (.int v2), .val (.int v3), .val (.int v4), .val (.ref b796), .unset, .unset, .unset, .unset, .unset, .unset, .unset, .unset, .unset, .unset, .unset, .unset, .unset, .unset, .unset, .unset] [(.int (5 : Int32))])) _
      refine XS.iconst X1036.here hx rfl (hb hby at_96) ?_
      show Steps p.tables e below (T1036.setTop (mkF m 97 #[.val (.int p0), .val (.int p1), .val (.int (5 : Int32)), .val (.int v0), .val (.int v1), .val (.int v2), .val (.int v3), .val (.int v4), .val (.ref b796), .unset, .unset, .unset, .unset, .unset, .unset, .unset, .unset, .unset, .unset, .unset, .unset, .unset, .unset, .unset, .unset] [(.int (1 : Int32)), (.int (5 : Int32))])) _
      refine XS.icmpNo X1036.here hx rfl (hb hby at_97) rfl (by decide) ?_
      show Steps p.tables e below (T1036.setTop (mkF m 100 #[.val (.int p0), .val (.int p1), .val (.int (5 : Int32)), .val (.int v0), .val (.int v1), .val (.int v2), .val (.int v3), .val (.int v4), .val (.ref b796), .unset, .unset, .unset, .unset, .unset, .unset, .unset, .unset, .unset, .unset, .unset, .unset, .unset, .unset, .unset, .unset] [])) _
      refine XS.aload X1036.here hx rfl (hb hby at_100) rfl rfl ?_
      show Steps p.tables e below (T1036.setTop (mkF m 102 #[.val (.int p0), .val (.int p1), .val (.int (5 : Int32)), .val (.int v0), .val (.int v1), .val (.int v2), .val (.int v3), .val (.int v4), .val (.ref b796), .unset, .unset, .unset, .unset, .unset, .unset, .unset, .unset, .unset, .unset, .unset, .unset, .unset, .unset, .unset, .unset] [(.ref b796)])) _
      refine XS.iload X1036.here hx rfl (hb hby at_102) rfl ?_
      show Steps p.tables e below (T1036.setTop (mkF m 104 #[.val (.int p0), .val (.int p1), .val (.int (5 : Int32)), .val (.int v0), .val (.int v1), .val (.int v2), .val (.int v3), .val (.int v4), .val (.ref b796), .unset, .unset, .unset, .unset, .unset, .unset, .unset, .unset, .unset, .unset, .unset, .unset, .unset, .unset, .unset, .unset] [(.int v1), (.ref b796)])) _
      exact kq)
    have f1042 := (Nat.le_trans f1037 K1036.1)
    have f1043 := (f1038.keep K1036)
    obtain ⟨cq1041, kq1041, q1041a, q1041b, q1041c⟩ := isOf hZ rfl f1043
    obtain ⟨_, _, ⟨T1041, L1041, k1041, n1041⟩, -, X1041, ⟨Lc1041, hQ1041, l1041, y1041, z1041⟩, st1041⟩ := X1036.virtualBack hx (y := (⟨"com/example/tube2/tube2/trace/BooleanSignal", "add", "(Z)V"⟩ : MethodName)) (z := (⟨"com/example/tube2/tube2/trace/BooleanSignal", "add", "(Z)V"⟩ : MethodName)) hown (mvT hZ (hw _ (List.mem_of_getElem? (i := 35) rfl))) (mvT hZ (hw _ (List.mem_of_getElem? (i := 36) rfl))) (notFace_of_selects (args := #[]) (mvT hZ (hw _ (List.mem_of_getElem? (i := 38) rfl)))) (mvT hZ (hw _ (List.mem_of_getElem? (i := 38) rfl))) (mvT hZ (hw _ (List.mem_of_getElem? (i := 37) rfl))) (by decide) (backOf (W := 0) (rmA1 l Z a0 hw [] b796 vb802 kb802 v0 v1 T1036.heap n0 f1042 f1043 F11036 F21036 A1036 g_b796 gb802 nab802 hb1) hZ (hw _ (List.mem_of_getElem? (i := 39) rfl)) (hw _ (List.mem_of_getElem? (i := 3) rfl)) (by decide) (by decide)) q1041a q1041c (g := (mkF m 104 #[.val (.int p0), .val (.int p1), .val (.int (5 : Int32)), .val (.int v0), .val (.int v1), .val (.int v2), .val (.int v3), .val (.int v4), .val (.ref b796), .unset, .unset, .unset, .unset, .unset, .unset, .unset, .unset, .unset, .unset, .unset, .unset, .unset, .unset, .unset, .unset] [(.int v1), (.ref b796)])) rfl (by rw [hml]; rfl) (Steps.refl _) (argsL := [(.int v1)]) (rest := []) (lenOf pd_3 rfl) rfl (by show 2 * 0 + _ ≤ _; exact Nat.le_of_eq rfl) (hb hby at_104) (fun _ _ => ⟨rfl, rfl, (by decide : 4 + 0 ≤ _), (by decide : 1035 + 0 ≤ _)⟩)
    dsimp only [Pt.U, Pt.locs, Pt.cells, Pt.slots] at X1041 l1041 y1041 z1041 st1041 hQ1041
    obtain rfl : k1041 = 4 := y1041
    obtain rfl : n1041 = 1035 := z1041
    obtain ⟨rfl, N1041q, K1041, F11041, F21041, A1041⟩ := hQ1041
    have N1041 : Fr n0 L1041 := by rw [l1041]; exact Fr.app N1036 N1041q
    have G1044 : Go p e below A0 (T1041.setTop (mkF m 107 #[.val (.int p0), .val (.int p1), .val (.int (5 : Int32)), .val (.int v0), .val (.int v1), .val (.int v2), .val (.int v3), .val (.int v4), .val (.ref b796), .unset, .unset, .unset, .unset, .unset, .unset, .unset, .unset, .unset, .unset, .unset, .unset, .unset, .unset, .unset, .unset] [])) := fun tq kq => G1040 tq (st1041.trans kq)
    have G1045 : Go p e below A0 (T1041.setTop (mkF m 116 #[.val (.int p0), .val (.int p1), .val (.int (5 : Int32)), .val (.int v0), .val (.int v1), .val (.int v2), .val (.int v3), .val (.int v4), .val (.ref b796), .unset, .unset, .unset, .unset, .unset, .unset, .unset, .unset, .unset, .unset, .unset, .unset, .unset, .unset, .unset, .unset] [(.int v2), (.ref b796)])) := fun tq kq => G1044 tq (by
      refine XS.iloadN X1041.here hx rfl (hb hby at_107) rfl ?_
      show Steps p.tables e below (T1041.setTop (mkF m 108 #[.val (.int p0), .val (.int p1), .val (.int (5 : Int32)), .val (.int v0), .val (.int v1), .val (.int v2), .val (.int v3), .val (.int v4), .val (.ref b796), .unset, .unset, .unset, .unset, .unset, .unset, .unset, .unset, .unset, .unset, .unset, .unset, .unset, .unset, .unset, .unset] [(.int (5 : Int32))])) _
      refine XS.iconst X1041.here hx rfl (hb hby at_108) ?_
      show Steps p.tables e below (T1041.setTop (mkF m 109 #[.val (.int p0), .val (.int p1), .val (.int (5 : Int32)), .val (.int v0), .val (.int v1), .val (.int v2), .val (.int v3), .val (.int v4), .val (.ref b796), .unset, .unset, .unset, .unset, .unset, .unset, .unset, .unset, .unset, .unset, .unset, .unset, .unset, .unset, .unset, .unset] [(.int (2 : Int32)), (.int (5 : Int32))])) _
      refine XS.icmpNo X1041.here hx rfl (hb hby at_109) rfl (by decide) ?_
      show Steps p.tables e below (T1041.setTop (mkF m 112 #[.val (.int p0), .val (.int p1), .val (.int (5 : Int32)), .val (.int v0), .val (.int v1), .val (.int v2), .val (.int v3), .val (.int v4), .val (.ref b796), .unset, .unset, .unset, .unset, .unset, .unset, .unset, .unset, .unset, .unset, .unset, .unset, .unset, .unset, .unset, .unset] [])) _
      refine XS.aload X1041.here hx rfl (hb hby at_112) rfl rfl ?_
      show Steps p.tables e below (T1041.setTop (mkF m 114 #[.val (.int p0), .val (.int p1), .val (.int (5 : Int32)), .val (.int v0), .val (.int v1), .val (.int v2), .val (.int v3), .val (.int v4), .val (.ref b796), .unset, .unset, .unset, .unset, .unset, .unset, .unset, .unset, .unset, .unset, .unset, .unset, .unset, .unset, .unset, .unset] [(.ref b796)])) _
      refine XS.iload X1041.here hx rfl (hb hby at_114) rfl ?_
      show Steps p.tables e below (T1041.setTop (mkF m 116 #[.val (.int p0), .val (.int p1), .val (.int (5 : Int32)), .val (.int v0), .val (.int v1), .val (.int v2), .val (.int v3), .val (.int v4), .val (.ref b796), .unset, .unset, .unset, .unset, .unset, .unset, .unset, .unset, .unset, .unset, .unset, .unset, .unset, .unset, .unset, .unset] [(.int v2), (.ref b796)])) _
      exact kq)
    have f1047 := (Nat.le_trans f1042 K1041.1)
    have f1048 := (f1043.keep K1041)
    obtain ⟨cq1046, kq1046, q1046a, q1046b, q1046c⟩ := isOf hZ rfl f1048
    obtain ⟨_, _, ⟨T1046, L1046, k1046, n1046⟩, -, X1046, ⟨Lc1046, hQ1046, l1046, y1046, z1046⟩, st1046⟩ := X1041.virtualBack hx (y := (⟨"com/example/tube2/tube2/trace/BooleanSignal", "add", "(Z)V"⟩ : MethodName)) (z := (⟨"com/example/tube2/tube2/trace/BooleanSignal", "add", "(Z)V"⟩ : MethodName)) hown (mvT hZ (hw _ (List.mem_of_getElem? (i := 35) rfl))) (mvT hZ (hw _ (List.mem_of_getElem? (i := 36) rfl))) (notFace_of_selects (args := #[]) (mvT hZ (hw _ (List.mem_of_getElem? (i := 38) rfl)))) (mvT hZ (hw _ (List.mem_of_getElem? (i := 38) rfl))) (mvT hZ (hw _ (List.mem_of_getElem? (i := 37) rfl))) (by decide) (backOf (W := 0) (rmA2 l Z a0 hw [] b796 vb802 kb802 v0 v1 v2 T1041.heap n0 f1047 f1048 F11041 F21041 A1041 g_b796 gb802 nab802 hb2) hZ (hw _ (List.mem_of_getElem? (i := 39) rfl)) (hw _ (List.mem_of_getElem? (i := 3) rfl)) (by decide) (by decide)) q1046a q1046c (g := (mkF m 116 #[.val (.int p0), .val (.int p1), .val (.int (5 : Int32)), .val (.int v0), .val (.int v1), .val (.int v2), .val (.int v3), .val (.int v4), .val (.ref b796), .unset, .unset, .unset, .unset, .unset, .unset, .unset, .unset, .unset, .unset, .unset, .unset, .unset, .unset, .unset, .unset] [(.int v2), (.ref b796)])) rfl (by rw [hml]; rfl) (Steps.refl _) (argsL := [(.int v2)]) (rest := []) (lenOf pd_3 rfl) rfl (by show 2 * 0 + _ ≤ _; exact Nat.le_of_eq rfl) (hb hby at_116) (fun _ _ => ⟨rfl, rfl, (by decide : 4 + 0 ≤ _), (by decide : 1035 + 0 ≤ _)⟩)
    dsimp only [Pt.U, Pt.locs, Pt.cells, Pt.slots] at X1046 l1046 y1046 z1046 st1046 hQ1046
    obtain rfl : k1046 = 4 := y1046
    obtain rfl : n1046 = 1035 := z1046
    obtain ⟨rfl, N1046q, K1046, F11046, F21046, A1046⟩ := hQ1046
    have N1046 : Fr n0 L1046 := by rw [l1046]; exact Fr.app N1041 N1046q
    have G1049 : Go p e below A0 (T1046.setTop (mkF m 119 #[.val (.int p0), .val (.int p1), .val (.int (5 : Int32)), .val (.int v0), .val (.int v1), .val (.int v2), .val (.int v3), .val (.int v4), .val (.ref b796), .unset, .unset, .unset, .unset, .unset, .unset, .unset, .unset, .unset, .unset, .unset, .unset, .unset, .unset, .unset, .unset] [])) := fun tq kq => G1045 tq (st1046.trans kq)
    have G1050 : Go p e below A0 (T1046.setTop (mkF m 128 #[.val (.int p0), .val (.int p1), .val (.int (5 : Int32)), .val (.int v0), .val (.int v1), .val (.int v2), .val (.int v3), .val (.int v4), .val (.ref b796), .unset, .unset, .unset, .unset, .unset, .unset, .unset, .unset, .unset, .unset, .unset, .unset, .unset, .unset, .unset, .unset] [(.int v3), (.ref b796)])) := fun tq kq => G1049 tq (by
      refine XS.iloadN X1046.here hx rfl (hb hby at_119) rfl ?_
      show Steps p.tables e below (T1046.setTop (mkF m 120 #[.val (.int p0), .val (.int p1), .val (.int (5 : Int32)), .val (.int v0), .val (.int v1), .val (.int v2), .val (.int v3), .val (.int v4), .val (.ref b796), .unset, .unset, .unset, .unset, .unset, .unset, .unset, .unset, .unset, .unset, .unset, .unset, .unset, .unset, .unset, .unset] [(.int (5 : Int32))])) _
      refine XS.iconst X1046.here hx rfl (hb hby at_120) ?_
      show Steps p.tables e below (T1046.setTop (mkF m 121 #[.val (.int p0), .val (.int p1), .val (.int (5 : Int32)), .val (.int v0), .val (.int v1), .val (.int v2), .val (.int v3), .val (.int v4), .val (.ref b796), .unset, .unset, .unset, .unset, .unset, .unset, .unset, .unset, .unset, .unset, .unset, .unset, .unset, .unset, .unset, .unset] [(.int (3 : Int32)), (.int (5 : Int32))])) _
      refine XS.icmpNo X1046.here hx rfl (hb hby at_121) rfl (by decide) ?_
      show Steps p.tables e below (T1046.setTop (mkF m 124 #[.val (.int p0), .val (.int p1), .val (.int (5 : Int32)), .val (.int v0), .val (.int v1), .val (.int v2), .val (.int v3), .val (.int v4), .val (.ref b796), .unset, .unset, .unset, .unset, .unset, .unset, .unset, .unset, .unset, .unset, .unset, .unset, .unset, .unset, .unset, .unset] [])) _
      refine XS.aload X1046.here hx rfl (hb hby at_124) rfl rfl ?_
      show Steps p.tables e below (T1046.setTop (mkF m 126 #[.val (.int p0), .val (.int p1), .val (.int (5 : Int32)), .val (.int v0), .val (.int v1), .val (.int v2), .val (.int v3), .val (.int v4), .val (.ref b796), .unset, .unset, .unset, .unset, .unset, .unset, .unset, .unset, .unset, .unset, .unset, .unset, .unset, .unset, .unset, .unset] [(.ref b796)])) _
      refine XS.iload X1046.here hx rfl (hb hby at_126) rfl ?_
      show Steps p.tables e below (T1046.setTop (mkF m 128 #[.val (.int p0), .val (.int p1), .val (.int (5 : Int32)), .val (.int v0), .val (.int v1), .val (.int v2), .val (.int v3), .val (.int v4), .val (.ref b796), .unset, .unset, .unset, .unset, .unset, .unset, .unset, .unset, .unset, .unset, .unset, .unset, .unset, .unset, .unset, .unset] [(.int v3), (.ref b796)])) _
      exact kq)
    have f1052 := (Nat.le_trans f1047 K1046.1)
    have f1053 := (f1048.keep K1046)
    obtain ⟨cq1051, kq1051, q1051a, q1051b, q1051c⟩ := isOf hZ rfl f1053
    obtain ⟨_, _, ⟨T1051, L1051, k1051, n1051⟩, -, X1051, ⟨Lc1051, hQ1051, l1051, y1051, z1051⟩, st1051⟩ := X1046.virtualBack hx (y := (⟨"com/example/tube2/tube2/trace/BooleanSignal", "add", "(Z)V"⟩ : MethodName)) (z := (⟨"com/example/tube2/tube2/trace/BooleanSignal", "add", "(Z)V"⟩ : MethodName)) hown (mvT hZ (hw _ (List.mem_of_getElem? (i := 35) rfl))) (mvT hZ (hw _ (List.mem_of_getElem? (i := 36) rfl))) (notFace_of_selects (args := #[]) (mvT hZ (hw _ (List.mem_of_getElem? (i := 38) rfl)))) (mvT hZ (hw _ (List.mem_of_getElem? (i := 38) rfl))) (mvT hZ (hw _ (List.mem_of_getElem? (i := 37) rfl))) (by decide) (backOf (W := 0) (rmA3 l Z a0 hw [] b796 vb802 kb802 v0 v1 v2 v3 T1046.heap n0 f1052 f1053 F11046 F21046 A1046 g_b796 gb802 nab802 hb3) hZ (hw _ (List.mem_of_getElem? (i := 39) rfl)) (hw _ (List.mem_of_getElem? (i := 3) rfl)) (by decide) (by decide)) q1051a q1051c (g := (mkF m 128 #[.val (.int p0), .val (.int p1), .val (.int (5 : Int32)), .val (.int v0), .val (.int v1), .val (.int v2), .val (.int v3), .val (.int v4), .val (.ref b796), .unset, .unset, .unset, .unset, .unset, .unset, .unset, .unset, .unset, .unset, .unset, .unset, .unset, .unset, .unset, .unset] [(.int v3), (.ref b796)])) rfl (by rw [hml]; rfl) (Steps.refl _) (argsL := [(.int v3)]) (rest := []) (lenOf pd_3 rfl) rfl (by show 2 * 0 + _ ≤ _; exact Nat.le_of_eq rfl) (hb hby at_128) (fun _ _ => ⟨rfl, rfl, (by decide : 4 + 0 ≤ _), (by decide : 1035 + 0 ≤ _)⟩)
    dsimp only [Pt.U, Pt.locs, Pt.cells, Pt.slots] at X1051 l1051 y1051 z1051 st1051 hQ1051
    obtain rfl : k1051 = 4 := y1051
    obtain rfl : n1051 = 1035 := z1051
    obtain ⟨rfl, N1051q, K1051, F11051, F21051, A1051⟩ := hQ1051
    have N1051 : Fr n0 L1051 := by rw [l1051]; exact Fr.app N1046 N1051q
    have G1054 : Go p e below A0 (T1051.setTop (mkF m 131 #[.val (.int p0), .val (.int p1), .val (.int (5 : Int32)), .val (.int v0), .val (.int v1), .val (.int v2), .val (.int v3), .val (.int v4), .val (.ref b796), .unset, .unset, .unset, .unset, .unset, .unset, .unset, .unset, .unset, .unset, .unset, .unset, .unset, .unset, .unset, .unset] [])) := fun tq kq => G1050 tq (st1051.trans kq)
    have G1055 : Go p e below A0 (T1051.setTop (mkF m 140 #[.val (.int p0), .val (.int p1), .val (.int (5 : Int32)), .val (.int v0), .val (.int v1), .val (.int v2), .val (.int v3), .val (.int v4), .val (.ref b796), .unset, .unset, .unset, .unset, .unset, .unset, .unset, .unset, .unset, .unset, .unset, .unset, .unset, .unset, .unset, .unset] [(.int v4), (.ref b796)])) := fun tq kq => G1054 tq (by
      refine XS.iloadN X1051.here hx rfl (hb hby at_131) rfl ?_
      show Steps p.tables e below (T1051.setTop (mkF m 132 #[.val (.int p0), .val (.int p1), .val (.int (5 : Int32)), .val (.int v0), .val (.int v1), .val (.int v2), .val (.int v3), .val (.int v4), .val (.ref b796), .unset, .unset, .unset, .unset, .unset, .unset, .unset, .unset, .unset, .unset, .unset, .unset, .unset, .unset, .unset, .unset] [(.int (5 : Int32))])) _
      refine XS.iconst X1051.here hx rfl (hb hby at_132) ?_
      show Steps p.tables e below (T1051.setTop (mkF m 133 #[.val (.int p0), .val (.int p1), .val (.int (5 : Int32)), .val (.int v0), .val (.int v1), .val (.int v2), .val (.int v3), .val (.int v4), .val (.ref b796), .unset, .unset, .unset, .unset, .unset, .unset, .unset, .unset, .unset, .unset, .unset, .unset, .unset, .unset, .unset, .unset] [(.int (4 : Int32)), (.int (5 : Int32))])) _
      refine XS.icmpNo X1051.here hx rfl (hb hby at_133) rfl (by decide) ?_
      show Steps p.tables e below (T1051.setTop (mkF m 136 #[.val (.int p0), .val (.int p1), .val (.int (5 : Int32)), .val (.int v0), .val (.int v1), .val (.int v2), .val (.int v3), .val (.int v4), .val (.ref b796), .unset, .unset, .unset, .unset, .unset, .unset, .unset, .unset, .unset, .unset, .unset, .unset, .unset, .unset, .unset, .unset] [])) _
      refine XS.aload X1051.here hx rfl (hb hby at_136) rfl rfl ?_
      show Steps p.tables e below (T1051.setTop (mkF m 138 #[.val (.int p0), .val (.int p1), .val (.int (5 : Int32)), .val (.int v0), .val (.int v1), .val (.int v2), .val (.int v3), .val (.int v4), .val (.ref b796), .unset, .unset, .unset, .unset, .unset, .unset, .unset, .unset, .unset, .unset, .unset, .unset, .unset, .unset, .unset, .unset] [(.ref b796)])) _
      refine XS.iload X1051.here hx rfl (hb hby at_138) rfl ?_
      show Steps p.tables e below (T1051.setTop (mkF m 140 #[.val (.int p0), .val (.int p1), .val (.int (5 : Int32)), .val (.int v0), .val (.int v1), .val (.int v2), .val (.int v3), .val (.int v4), .val (.ref b796), .unset, .unset, .unset, .unset, .unset, .unset, .unset, .unset, .unset, .unset, .unset, .unset, .unset, .unset, .unset, .unset] [(.int v4), (.ref b796)])) _
      exact kq)
    have f1057 := (Nat.le_trans f1052 K1051.1)
    have f1058 := (f1053.keep K1051)
    obtain ⟨cq1056, kq1056, q1056a, q1056b, q1056c⟩ := isOf hZ rfl f1058
    obtain ⟨_, _, ⟨T1056, L1056, k1056, n1056⟩, -, X1056, ⟨Lc1056, hQ1056, l1056, y1056, z1056⟩, st1056⟩ := X1051.virtualBack hx (y := (⟨"com/example/tube2/tube2/trace/BooleanSignal", "add", "(Z)V"⟩ : MethodName)) (z := (⟨"com/example/tube2/tube2/trace/BooleanSignal", "add", "(Z)V"⟩ : MethodName)) hown (mvT hZ (hw _ (List.mem_of_getElem? (i := 35) rfl))) (mvT hZ (hw _ (List.mem_of_getElem? (i := 36) rfl))) (notFace_of_selects (args := #[]) (mvT hZ (hw _ (List.mem_of_getElem? (i := 38) rfl)))) (mvT hZ (hw _ (List.mem_of_getElem? (i := 38) rfl))) (mvT hZ (hw _ (List.mem_of_getElem? (i := 37) rfl))) (by decide) (backOf (W := 0) (rmA4 l Z a0 hw [] b796 vb802 kb802 v0 v1 v2 v3 v4 T1051.heap n0 f1057 f1058 F11051 F21051 A1051 g_b796 gb802 nab802 hb4) hZ (hw _ (List.mem_of_getElem? (i := 39) rfl)) (hw _ (List.mem_of_getElem? (i := 3) rfl)) (by decide) (by decide)) q1056a q1056c (g := (mkF m 140 #[.val (.int p0), .val (.int p1), .val (.int (5 : Int32)), .val (.int v0), .val (.int v1), .val (.int v2), .val (.int v3), .val (.int v4), .val (.ref b796), .unset, .unset, .unset, .unset, .unset, .unset, .unset, .unset, .unset, .unset, .unset, .unset, .unset, .unset, .unset, .unset] [(.int v4), (.ref b796)])) rfl (by rw [hml]; rfl) (Steps.refl _) (argsL := [(.int v4)]) (rest := []) (lenOf pd_3 rfl) rfl (by show 2 * 0 + _ ≤ _; exact Nat.le_of_eq rfl) (hb hby at_140) (fun _ _ => ⟨rfl, rfl, (by decide : 4 + 0 ≤ _), (by decide : 1035 + 0 ≤ _)⟩)
    dsimp only [Pt.U, Pt.locs, Pt.cells, Pt.slots] at X1056 l1056 y1056 z1056 st1056 hQ1056
    obtain rfl : k1056 = 4 := y1056
    obtain rfl : n1056 = 1035 := z1056
    obtain ⟨rfl, N1056q, K1056, F11056, F21056, A1056⟩ := hQ1056
    have N1056 : Fr n0 L1056 := by rw [l1056]; exact Fr.app N1051 N1056q
    have G1059 : Go p e below A0 (T1056.setTop (mkF m 143 #[.val (.int p0), .val (.int p1), .val (.int (5 : Int32)), .val (.int v0), .val (.int v1), .val (.int v2), .val (.int v3), .val (.int v4), .val (.ref b796), .unset, .unset, .unset, .unset, .unset, .unset, .unset, .unset, .unset, .unset, .unset, .unset, .unset, .unset, .unset, .unset] [])) := fun tq kq => G1055 tq (st1056.trans kq)
    have G1060 : Go p e below A0 (T1056.setTop (mkF m 145 #[.val (.int p0), .val (.int p1), .val (.int (5 : Int32)), .val (.int v0), .val (.int v1), .val (.int v2), .val (.int v3), .val (.int v4), .val (.ref b796), .unset, .unset, .unset, .unset, .unset, .unset, .unset, .unset, .unset, .unset, .unset, .unset, .unset, .unset, .unset, .unset] [(.ref b796)])) := fun tq kq => G1059 tq (by
      refine XS.aload X1056.here hx rfl (hb hby at_143) rfl rfl ?_
      show Steps p.tables e below (T1056.setTop (mkF m 145 #[.val (.int p0), .val (.int p1), .val (.int (5 : Int32)), .val (.int v0), .val (.int v1), .val (.int v2), .val (.int v3), .val (.int v4), .val (.ref b796), .unset, .unset, .unset, .unset, .unset, .unset, .unset, .unset, .unset, .unset, .unset, .unset, .unset, .unset, .unset, .unset] [(.ref b796)])) _
      exact kq)
    have f1062 := (Nat.le_trans f1057 K1056.1)
    have f1063 := (f1058.keep K1056)
    obtain ⟨cq1061, kq1061, q1061a, q1061b, q1061c⟩ := isOf hZ rfl f1063
    obtain ⟨_, _, ⟨T1061, L1061, k1061, n1061⟩, -, X1061, ⟨Lc1061, hQ1061, l1061, y1061, z1061⟩, st1061⟩ := X1056.virtualBack hx (y := (⟨"com/example/tube2/tube2/trace/BooleanSignal", "order", "()[I"⟩ : MethodName)) (z := (⟨"com/example/tube2/tube2/trace/BooleanSignal", "order", "()[I"⟩ : MethodName)) hown (mvT hZ (hw _ (List.mem_of_getElem? (i := 23) rfl))) (mvT hZ (hw _ (List.mem_of_getElem? (i := 24) rfl))) (notFace_of_selects (args := #[]) (mvT hZ (hw _ (List.mem_of_getElem? (i := 26) rfl)))) (mvT hZ (hw _ (List.mem_of_getElem? (i := 26) rfl))) (mvT hZ (hw _ (List.mem_of_getElem? (i := 25) rfl))) (by decide) (backOf (W := 0) (rmO5 l Z a0 hw [] b796 vb802 kb802 v0 v1 v2 v3 v4 T1056.heap n0 f1062 F11056 F21056 A1056 hb0 hb1 hb2 hb3 hb4) hZ (hw _ (List.mem_of_getElem? (i := 27) rfl)) (hw _ (List.mem_of_getElem? (i := 3) rfl)) (by decide) (by decide)) q1061a q1061c (g := (mkF m 145 #[.val (.int p0), .val (.int p1), .val (.int (5 : Int32)), .val (.int v0), .val (.int v1), .val (.int v2), .val (.int v3), .val (.int v4), .val (.ref b796), .unset, .unset, .unset, .unset, .unset, .unset, .unset, .unset, .unset, .unset, .unset, .unset, .unset, .unset, .unset, .unset] [(.ref b796)])) rfl (by rw [hml]; rfl) (Steps.refl _) (argsL := []) (rest := []) (lenOf pd_2 rfl) rfl (by show 2 * 0 + _ ≤ _; exact Nat.le_of_eq rfl) (hb hby at_145) (fun _ _ => ⟨rfl, rfl, (by decide : 4 + 1 ≤ _), (by decide : 1035 + 5 ≤ _)⟩)
    dsimp only [Pt.U, Pt.locs, Pt.cells, Pt.slots] at X1061 l1061 y1061 z1061 st1061 hQ1061
    obtain rfl : k1061 = 5 := y1061
    obtain rfl : n1061 = 1040 := z1061
    obtain ⟨r1061, kr1061, rfl, N1061q, K1061, A1061⟩ := hQ1061
    have N1061 : Fr n0 L1061 := by rw [l1061]; exact Fr.app N1056 N1061q
    have G1064 : Go p e below A0 (T1061.setTop (mkF m 148 #[.val (.int p0), .val (.int p1), .val (.int (5 : Int32)), .val (.int v0), .val (.int v1), .val (.int v2), .val (.int v3), .val (.int v4), .val (.ref b796), .unset, .unset, .unset, .unset, .unset, .unset, .unset, .unset, .unset, .unset, .unset, .unset, .unset, .unset, .unset, .unset] [(.ref r1061)])) := fun tq kq => G1060 tq (st1061.trans kq)
    have G1065 : Go p e below A0 (T1061.setTop (mkF m 150 #[.val (.int p0), .val (.int p1), .val (.int (5 : Int32)), .val (.int v0), .val (.int v1), .val (.int v2), .val (.int v3), .val (.int v4), .val (.ref b796), .val (.ref r1061), .unset, .unset, .unset, .unset, .unset, .unset, .unset, .unset, .unset, .unset, .unset, .unset, .unset, .unset, .unset] [])) := fun tq kq => G1064 tq (by
      refine XS.astore X1061.here hx rfl (hb hby at_148) rfl rfl (l' := #[.val (.int p0), .val (.int p1), .val (.int (5 : Int32)), .val (.int v0), .val (.int v1), .val (.int v2), .val (.int v3), .val (.int v4), .val (.ref b796), .val (.ref r1061), .unset, .unset, .unset, .unset, .unset, .unset, .unset, .unset, .unset, .unset, .unset, .unset, .unset, .unset, .unset]) rfl ?_
      show Steps p.tables e below (T1061.setTop (mkF m 150 #[.val (.int p0), .val (.int p1), .val (.int (5 : Int32)), .val (.int v0), .val (.int v1), .val (.int v2), .val (.int v3), .val (.int v4), .val (.ref b796), .val (.ref r1061), .unset, .unset, .unset, .unset, .unset, .unset, .unset, .unset, .unset, .unset, .unset, .unset, .unset, .unset, .unset] [])) _
      exact kq)
    have f1066 := (Nat.le_trans f1062 K1061.1)
    have f1067 := (Nat.le_trans (Nat.le_trans (Nat.le_trans (Nat.le_trans (Nat.le_trans (Nat.le_trans (Nat.le_trans hk799 K802.1) K1036.1) K1041.1) K1046.1) K1051.1) K1056.1) K1061.1)
    exact cont (5 : Int32) (Or.inr (Or.inr (Or.inr (Or.inr (Or.inr (rfl)))))) _ _ _ _ _ X1061 rfl N1061 f1066 f1067 (show Af Z _ r1061 kr1061 .int (5 : Int32) (own_G (5 : Int32) v0 v1 v2 v3 v4) from A1061) G1065
set_option maxRecDepth 65536 in
set_option maxHeartbeats 40000000 in
theorem comes_1 {Post : Tables → Env → Array Value → State → Outcome → State → Prop} (hpost : ∀ tb e args s v u, (limb_1_1.after args s (.returned v) u = true ∧ limb_1_2.after args s (.returned v) u = true ∧ True) → ReturnedEndW s (.returned v) u (Jvm.fieldLocs frame_1_writes args s ++ Jvm.arrayLocs frame_1_arrays args s ++ Jvm.staticLocs frame_1_statics s) 16 3200 → Post tb e args s (.returned v) u) :
    ArmFor flags0 classFile x code maxLocals ret World_1 tables_1 room_1 Calls_1 rest_1 Pre_1 Post := by
  intro l hfl _ _ p e ha hc hk s m args below hf hA hF happ hP
  obtain ⟨hcalls, hrest, hpre⟩ := hP
  obtain ⟨-, -, -, hnamed, -, -, -, hat⟩ := (Spec.applies_iff hf).mp happ
  obtain ⟨hg, hn⟩ := and_e (Cond.before_iff.mp (show (Jvm.Cond.and given_1 narrow_1).before args s = true from hpre))
  obtain ⟨g1, g2⟩ := and_e hg
  obtain ⟨g3, g4⟩ := and_e g2
  obtain ⟨w0, w1, rfl⟩ : ∃ w0 w1 : Value, args = #[w0, w1] := by
    have hs : args.size = 2 := by simpa [Cond.value, given_1] using g1
    obtain ⟨L⟩ := args
    match L, hs with
    | [w0, w1], _ => exact ⟨w0, w1, rfl⟩
  have hw := fun d (hd : d ∈ tables_1) => atoms_spec (ws := Jvm.Cond.code x code maxLocals ret :: tables_1) hat d (List.mem_cons_of_mem _ hd)
  have hfit : Fit s := fun {y c} hc i hi => by
    obtain ⟨ha, rfl⟩ := Array.getElem?_eq_some_iff.mp hc
    have q := List.all_eq_true.mp ((Array.all_eq_true_iff_forall_mem.mp hF) _ (Array.getElem_mem ha)) i (List.mem_range.mpr hi)
    simpa [Array.getElem?_eq_getElem hi] using q
  obtain ⟨i0, ei0⟩ := is_v g3
  obtain rfl : w0 = (.int i0) := Option.some.inj ei0
  obtain ⟨i1, ei1⟩ := is_v g4
  obtain rfl : w1 = (.int i1) := Option.some.inj ei1
  obtain ⟨n, o, h1, h2, h3, _, L, rfl, ⟨rfl, N⟩, hq⟩ := rm0 l s _ hw tables_1 i0 i1  s.heap s.heap.size (Nat.le_refl _)  p e ha hc hk s m _ below hf ((Spec.applies_iff_loose hf).mp happ).1 ⟨rfl, State.Warmed39.refl s, rfl⟩ trivial
  refine ⟨n, _, h1, h2, h3, hpost _ _ _ _ _ _ ⟨Cond.after_iff.mpr rfl, Cond.after_iff.mpr (eq_i res_at (Term.int_eval (1)) rfl), trivial⟩ ⟨hq.1, hq.2.1, hq.2.2.1, (hq.2.2.2.sift fun y hy => Or.inr (N y hy)).mono (by decide) (by decide)⟩⟩
theorem main_1_1 : Claimed_1_1 := comes_1 fun _ _ _ _ _ _ h hF => ⟨h.1, hF⟩
theorem main_1_2 : Claimed_1_2 := comes_1 fun _ _ _ _ _ _ h hF => ⟨h.2.1, hF⟩
end Jvm.Pilot.@@N@@
namespace Jvm.Pilot.@@N@@
open Jvm Jvm.ClassFile Sem Op Lib Jvm.Free Jvm.Stand Jvm.Pilot.@@N@@.Jvm.D
/-! MADE BY PROGRAM (witnessworld.py) out of the Statement's table words and the real class files: 17 classes; the members and pool entries that the words name. The judged class is class 1, her method 1. -/
namespace start1
open Jvm.ClassFile
def u (s : String) : CpInfo := .utf8 (stringToUtf16 s)
/-- a pool by its gaps: so many unusable entries, then the entry; so many at the end -/
def gap : Nat → List CpInfo → List CpInfo
  | 0, r => r
  | n + 1, r => .unusable :: gap n r
def poolList (es : List (Nat × CpInfo)) (last : Nat) : List CpInfo := es.foldr (fun e r => gap e.1 (e.2 :: r)) (gap last [])
def pool (es : List (Nat × CpInfo)) (last : Nat) : Array CpInfo := ⟨poolList es last⟩
def fileOf (pool : Array CpInfo) (this : Nat) (attrs : Array Attribute := #[]) (ms : Array MethodInfo := #[]) (fl : Nat := 33) (sup : Nat := 0) (ifs : Array Nat := #[]) (fds : Array FieldInfo := #[]) : ClassFile where
  minorVersion := 0
  majorVersion := 65
  constantPool := pool
  accessFlags := fl
  thisClass := this
  superClass := sup
  interfaces := ifs
  fields := fds
  methods := ms
  attributes := attrs
def plain (name : String) (sup : Option ClassId) : Class where
  name := name
  kind := .ordinary
  loader := none
  accessFlags := 33
  super := sup
  interfaces := #[]
  cf := none
  fields := #[]
  methods := #[]
  instanceTypes := #[]
  staticTypes := #[]
  resolved := #[]
  callSites := []
  init := .initialized
  statics := none
  mirror := none

def pool0 : Array CpInfo := pool [(5, u "<init>"), (0, u "()V"), (1, .class_ 10), (1, u "java/lang/Object")] 113

def k0c0 : Code := { maxStack := 0, maxLocals := 1, code := object_method_1_code, exceptionTable := #[], attributes := #[] }
def k0m0 : Method := { name := "<init>", desc := "()V", sig := { parameters := [], returnType := none }, accessFlags := 1, code := some k0c0 }
/-- java/lang/Object -/
def k0 : Class := { plain "java/lang/Object" none with
  accessFlags := 33
  interfaces := #[]
  cf := some (fileOf pool0 8 #[] #[{ accessFlags := 1, nameIndex := 5, descriptorIndex := 6, attributes := #[] }] 33 0 #[] #[])
  fields := #[]
  methods := #[k0m0]
  instanceTypes := #[]
  staticTypes := #[]
  resolved := Array.replicate 124 none
  statics := none }

def pool1 : Array CpInfo := pool [(2, .class_ 4), (1, u "java/lang/Object"), (0, u "<init>"), (0, u "()V"), (0, .integer 2147483647), (0, .class_ 9), (0, u "com/example/tube2/tube2/trace/BooleanSignal"), (0, .string 11), (0, u "s"), (0, .methodref 8 13), (0, .nameAndType 5 14), (0, u "(Ljava/lang/String;)V"), (0, .methodref 8 16), (0, .nameAndType 17 18), (0, u "add"), (0, u "(Z)V"), (0, .methodref 8 20), (0, .nameAndType 21 22), (0, u "order"), (0, u "()[I"), (0, .methodref 24 25), (0, .class_ 26), (0, .nameAndType 27 28), (0, u "com/example/tube2/tube2/trace/BooleanSignalOrderPinLaw"), (0, u "check"), (0, u "([IIII)Z"), (2, u "law"), (0, u "(II)Z")] 5

def k1m0 : Method := { name := "<init>", desc := "()V", sig := { parameters := [], returnType := none }, accessFlags := 1, code := none }
def k1c1 : Code := { maxStack := 4, maxLocals := 25, code := code, exceptionTable := #[], attributes := #[] }
def k1m1 : Method := { name := "law", desc := "(II)Z", sig := { parameters := [.int, .int], returnType := some .boolean }, accessFlags := 9, code := some k1c1 }
def k1c2 : Code := { maxStack := 2, maxLocals := 4, code := method_3_code, exceptionTable := #[], attributes := #[] }
def k1m2 : Method := { name := "check", desc := "([IIII)Z", sig := { parameters := [(.array .int), .int, .int, .int], returnType := some .boolean }, accessFlags := 10, code := some k1c2 }
/-- com/example/tube2/tube2/trace/BooleanSignalOrderPinLaw -/
def k1 : Class := { plain "com/example/tube2/tube2/trace/BooleanSignalOrderPinLaw" (some 0) with
  accessFlags := 49
  interfaces := #[]
  cf := some (fileOf pool1 24 #[] #[{ accessFlags := 1, nameIndex := 5, descriptorIndex := 6, attributes := #[] }, { accessFlags := 9, nameIndex := 31, descriptorIndex := 32, attributes := #[] }, { accessFlags := 10, nameIndex := 27, descriptorIndex := 28, attributes := #[] }] 49 2 #[] #[])
  fields := #[]
  methods := #[k1m0, k1m1, k1m2]
  instanceTypes := #[]
  staticTypes := #[]
  resolved := Array.replicate 38 none
  statics := none }

def pool2 : Array CpInfo := pool [(1, .class_ 2), (0, u "com/example/tube2/tube2/trace/Signal"), (0, .class_ 4), (0, u "java/lang/Object")] 24

/-- com/example/tube2/tube2/trace/Signal -/
def k2 : Class := { plain "com/example/tube2/tube2/trace/Signal" (some 0) with
  accessFlags := 1537
  interfaces := #[]
  cf := some (fileOf pool2 1 #[] #[] 1537 3 #[] #[])
  fields := #[]
  methods := #[]
  instanceTypes := #[]
  staticTypes := #[]
  resolved := Array.replicate 29 none
  statics := none }

def pool3 : Array CpInfo := pool [(1, .methodref 2 3), (0, .class_ 4), (0, .nameAndType 5 6), (0, u "java/lang/Object"), (0, u "<init>"), (0, u "()V"), (0, .class_ 8), (0, u "com/example/tube2/tube2/trace/BooleanSignal"), (0, .fieldref 7 10), (0, .nameAndType 11 12), (0, u "values"), (0, u "[Z"), (0, .fieldref 7 14), (0, .nameAndType 15 16), (0, u "name"), (0, u "Ljava/lang/String;"), (0, .fieldref 7 18), (0, .nameAndType 19 20), (0, u "size"), (0, u "I"), (38, u "(Ljava/lang/String;)V"), (9, .class_ 71), (1, u "com/example/tube2/tube2/trace/Signal"), (10, u "INITIAL_CAPACITY"), (4, u "add"), (0, u "(Z)V"), (9, u "order"), (0, u "()[I")] 24

def k3c0 : Code := { maxStack := 2, maxLocals := 2, code := prog_91_method_1_code, exceptionTable := #[], attributes := #[] }
def k3m0 : Method := { name := "<init>", desc := "(Ljava/lang/String;)V", sig := { parameters := [(.object "java/lang/String")], returnType := none }, accessFlags := 0, code := some k3c0 }
def k3c1 : Code := { maxStack := 5, maxLocals := 2, code := prog_91_method_2_code, exceptionTable := #[], attributes := #[] }
def k3m1 : Method := { name := "add", desc := "(Z)V", sig := { parameters := [.boolean], returnType := none }, accessFlags := 0, code := some k3c1 }
def k3c2 : Code := { maxStack := 3, maxLocals := 6, code := prog_91_method_10_code, exceptionTable := #[], attributes := #[] }
def k3m2 : Method := { name := "order", desc := "()[I", sig := { parameters := [], returnType := some (.array .int) }, accessFlags := 1, code := some k3c2 }
/-- com/example/tube2/tube2/trace/BooleanSignal -/
def k3 : Class := { plain "com/example/tube2/tube2/trace/BooleanSignal" (some 0) with
  accessFlags := 49
  interfaces := #[2]
  cf := some (fileOf pool3 7 #[] #[{ accessFlags := 0, nameIndex := 5, descriptorIndex := 59, attributes := #[] }, { accessFlags := 0, nameIndex := 87, descriptorIndex := 88, attributes := #[] }, { accessFlags := 1, nameIndex := 98, descriptorIndex := 99, attributes := #[] }] 49 2 #[69] #[{ accessFlags := 26, nameIndex := 82, descriptorIndex := 20, attributes := #[] }, { accessFlags := 18, nameIndex := 15, descriptorIndex := 16, attributes := #[] }, { accessFlags := 2, nameIndex := 11, descriptorIndex := 12, attributes := #[] }, { accessFlags := 2, nameIndex := 19, descriptorIndex := 20, attributes := #[] }])
  fields := #[{ name := "INITIAL_CAPACITY", type := .int, accessFlags := 26, slot := 0, constantValue := 0 }, { name := "name", type := (.object "java/lang/String"), accessFlags := 18, slot := 0, constantValue := 0 }, { name := "values", type := (.array .boolean), accessFlags := 2, slot := 1, constantValue := 0 }, { name := "size", type := .int, accessFlags := 2, slot := 2, constantValue := 0 }]
  methods := #[k3m0, k3m1, k3m2]
  instanceTypes := #[(.object "java/lang/String"), (.array .boolean), .int]
  staticTypes := #[.int]
  resolved := Array.replicate 124 none
  statics := none }

def pool4 : Array CpInfo := pool [(1, .class_ 2), (0, u "java/io/Serializable"), (0, .class_ 4), (0, u "java/lang/Object")] 2

/-- java/io/Serializable -/
def k4 : Class := { plain "java/io/Serializable" (some 0) with
  accessFlags := 1537
  interfaces := #[]
  cf := some (fileOf pool4 1 #[] #[] 1537 3 #[] #[])
  fields := #[]
  methods := #[]
  instanceTypes := #[]
  staticTypes := #[]
  resolved := Array.replicate 7 none
  statics := none }

def pool5 : Array CpInfo := pool [(1, .class_ 2), (0, u "java/lang/Comparable"), (0, .class_ 4), (0, u "java/lang/Object")] 7

/-- java/lang/Comparable -/
def k5 : Class := { plain "java/lang/Comparable" (some 0) with
  accessFlags := 1537
  interfaces := #[]
  cf := some (fileOf pool5 1 #[] #[] 1537 3 #[] #[])
  fields := #[]
  methods := #[]
  instanceTypes := #[]
  staticTypes := #[]
  resolved := Array.replicate 12 none
  statics := none }

def pool6 : Array CpInfo := pool [(2, .class_ 4), (1, u "java/lang/CharSequence"), (42, .class_ 48), (0, u "java/lang/CharSequence$1CodePointIterator"), (10, .class_ 60), (0, u "java/lang/CharSequence$1CharIterator"), (5, .class_ 67), (0, u "java/lang/Object")] 63

/-- java/lang/CharSequence -/
def k6 : Class := { plain "java/lang/CharSequence" (some 0) with
  accessFlags := 1537
  interfaces := #[]
  cf := some (fileOf pool6 2 #[.nestMembers #[47, 59]] #[] 1537 66 #[] #[])
  fields := #[]
  methods := #[]
  instanceTypes := #[]
  staticTypes := #[]
  resolved := Array.replicate 131 none
  statics := none }

def pool7 : Array CpInfo := pool [(1, .class_ 2), (0, u "java/lang/constant/Constable"), (0, .class_ 4), (0, u "java/lang/Object")] 6

/-- java/lang/constant/Constable -/
def k7 : Class := { plain "java/lang/constant/Constable" (some 0) with
  accessFlags := 1537
  interfaces := #[]
  cf := some (fileOf pool7 1 #[] #[] 1537 3 #[] #[])
  fields := #[]
  methods := #[]
  instanceTypes := #[]
  staticTypes := #[]
  resolved := Array.replicate 11 none
  statics := none }

def pool8 : Array CpInfo := pool [(1, .class_ 2), (0, u "java/lang/constant/ConstantDesc"), (0, .class_ 4), (0, u "java/lang/Object")] 32

/-- java/lang/constant/ConstantDesc -/
def k8 : Class := { plain "java/lang/constant/ConstantDesc" (some 0) with
  accessFlags := 1537
  interfaces := #[]
  cf := some (fileOf pool8 1 #[] #[] 1537 3 #[] #[])
  fields := #[]
  methods := #[]
  instanceTypes := #[]
  staticTypes := #[]
  resolved := Array.replicate 37 none
  statics := none }

def pool9 : Array CpInfo := pool [(2, .class_ 4), (1, u "java/lang/Object"), (0, u "<init>"), (0, u "()V"), (3, .class_ 12), (1, u "java/lang/String"), (0, u "value"), (0, u "[B"), (2, u "coder"), (0, u "B"), (2, u "hash"), (0, u "I"), (2, u "hashIsZero"), (0, u "Z"), (13, u "COMPACT_STRINGS"), (534, .class_ 576), (0, u "java/lang/CharSequence"), (22, u "CASE_INSENSITIVE_ORDER"), (0, u "Ljava/util/Comparator;"), (500, u "serialPersistentFields"), (0, u "[Ljava/io/ObjectStreamField;"), (0, .class_ 1104), (0, u "java/lang/String$CaseInsensitiveComparator"), (1, .class_ 1107), (0, u "java/io/Serializable"), (0, .class_ 1109), (0, u "java/lang/Comparable"), (0, .class_ 1111), (0, u "java/lang/constant/Constable"), (0, .class_ 1113), (0, u "java/lang/constant/ConstantDesc"), (2, u "serialVersionUID"), (0, u "J"), (3, u "REPL"), (0, u "C"), (2, u "LATIN1"), (1, u "UTF16")] 323

def k9m0 : Method := { name := "<init>", desc := "()V", sig := { parameters := [], returnType := none }, accessFlags := 1, code := none }
/-- java/lang/String -/
def k9 : Class := { plain "java/lang/String" (some 0) with
  accessFlags := 49
  interfaces := #[4, 5, 6, 7, 8]
  cf := some (fileOf pool9 10 #[.nestMembers #[1103]] #[{ accessFlags := 1, nameIndex := 5, descriptorIndex := 6, attributes := #[] }] 49 2 #[1106, 1108, 575, 1110, 1112] #[{ accessFlags := 18, nameIndex := 13, descriptorIndex := 14, attributes := #[] }, { accessFlags := 18, nameIndex := 17, descriptorIndex := 18, attributes := #[] }, { accessFlags := 2, nameIndex := 21, descriptorIndex := 22, attributes := #[] }, { accessFlags := 2, nameIndex := 25, descriptorIndex := 26, attributes := #[] }, { accessFlags := 26, nameIndex := 1116, descriptorIndex := 1117, attributes := #[] }, { accessFlags := 24, nameIndex := 40, descriptorIndex := 26, attributes := #[] }, { accessFlags := 26, nameIndex := 1101, descriptorIndex := 1102, attributes := #[] }, { accessFlags := 26, nameIndex := 1121, descriptorIndex := 1122, attributes := #[] }, { accessFlags := 25, nameIndex := 599, descriptorIndex := 600, attributes := #[] }, { accessFlags := 24, nameIndex := 1125, descriptorIndex := 18, attributes := #[] }, { accessFlags := 24, nameIndex := 1127, descriptorIndex := 18, attributes := #[] }])
  fields := #[{ name := "value", type := (.array .byte), accessFlags := 18, slot := 0, constantValue := 0 }, { name := "coder", type := .byte, accessFlags := 18, slot := 1, constantValue := 0 }, { name := "hash", type := .int, accessFlags := 2, slot := 2, constantValue := 0 }, { name := "hashIsZero", type := .boolean, accessFlags := 2, slot := 3, constantValue := 0 }, { name := "serialVersionUID", type := .long, accessFlags := 26, slot := 0, constantValue := 0 }, { name := "COMPACT_STRINGS", type := .boolean, accessFlags := 24, slot := 1, constantValue := 0 }, { name := "serialPersistentFields", type := (.array (.object "java/io/ObjectStreamField")), accessFlags := 26, slot := 2, constantValue := 0 }, { name := "REPL", type := .char, accessFlags := 26, slot := 3, constantValue := 0 }, { name := "CASE_INSENSITIVE_ORDER", type := (.object "java/util/Comparator"), accessFlags := 25, slot := 4, constantValue := 0 }, { name := "LATIN1", type := .byte, accessFlags := 24, slot := 5, constantValue := 0 }, { name := "UTF16", type := .byte, accessFlags := 24, slot := 6, constantValue := 0 }]
  methods := #[k9m0]
  instanceTypes := #[(.array .byte), .byte, .int, .boolean]
  staticTypes := #[.long, .boolean, (.array (.object "java/io/ObjectStreamField")), .char, (.object "java/util/Comparator"), .byte, .byte]
  resolved := Array.replicate 1451 none
  statics := none }

def pool10 : Array CpInfo := pool [(1, u "java/lang/Cloneable"), (0, .class_ 1), (0, u "java/lang/Object"), (0, .class_ 3)] 3

/-- java/lang/Cloneable -/
def k10 : Class := { plain "java/lang/Cloneable" (some 0) with
  accessFlags := 1537
  interfaces := #[]
  cf := some (fileOf pool10 2 #[] #[] 1537 4 #[] #[])
  fields := #[]
  methods := #[]
  instanceTypes := #[]
  staticTypes := #[]
  resolved := Array.replicate 8 none
  statics := none }

/-- the primitive boolean -/
def k11 : Class := { plain "boolean" none with kind := .primitive 'Z', accessFlags := 0x411 }
/-- [Z -/
def k12 : Class := { plain "[Z" (some 0) with kind := .array 11 .boolean, interfaces := #[10, 4], accessFlags := 1041 }

/-- the primitive byte -/
def k13 : Class := { plain "byte" none with kind := .primitive 'B', accessFlags := 0x411 }
/-- [B -/
def k14 : Class := { plain "[B" (some 0) with kind := .array 13 .byte, interfaces := #[10, 4], accessFlags := 1041 }

/-- the primitive int -/
def k15 : Class := { plain "int" none with kind := .primitive 'I', accessFlags := 0x411 }
/-- [I -/
def k16 : Class := { plain "[I" (some 0) with kind := .array 15 .int, interfaces := #[10, 4], accessFlags := 1041 }

def heap : Heap := #[]
def classes : Array Class := #[k0, k1, k2, k3, k4, k5, k6, k7, k8, k9, k10, k11, k12, k13, k14, k15, k16]
def interned : List (Array UInt16 × Addr) := []
def slotsUsed : Nat := 0
def theMethod : MethodId := ⟨1, 1⟩
def args0 : Array Value := #[.int 3, .int 5]
def aboutOver (below : List Frame) : State where
  vm := { classes := classes, interned := interned.toArray }
  heap := heap
  slotsUsed := slotsUsed
  threads := #[{ frames := .invoking theMethod args0 :: below }]
def below0 : List Frame := [.native { method := ⟨0, 0⟩, args := #[] }]
def about1 : State := aboutOver below0
def p0 : Program := .bare "" "" ""
def e0 : Env := launch0.env 0 0 0
theorem w_frames : about1.frames = Frame.invoking theMethod args0 :: below0 := rfl
set_option maxRecDepth 65536 in
theorem w_args : argsFit about1.vm theMethod args0 = true := by decide +kernel
set_option maxRecDepth 65536 in
theorem w_heap : heapFits about1 = true := by decide +kernel
set_option maxRecDepth 65536 in
theorem w_runnable : about1.curStatus? = some .runnable := by decide +kernel
set_option maxRecDepth 65536 in
theorem w_alone : about1.alone = true := by decide +kernel
set_option maxRecDepth 65536 in
theorem w_named : about1.methodNamed? x = some theMethod := by decide +kernel
set_option maxRecDepth 65536 in
theorem w_hears : about1.hears theMethod below0 = true := by decide +kernel
set_option maxRecDepth 65536 in
theorem w_ripe : about1.ripe theMethod args0 below0 = true := by decide +kernel
theorem w_running : about1.status = .running := rfl
set_option maxRecDepth 65536 in
theorem w_room : about1.hasRoom e0.platform room_1 = true :=
  launch0.hasRoom_least _ room_1 (by decide +kernel) (by decide +kernel) (by decide +kernel) (by decide +kernel) (by decide +kernel) (by decide +kernel)
theorem allAtoms_all (ts : List Jvm.Cond) (a : Array Jvm.Value) (st : Jvm.State) : (allAtoms ts).before a st = ts.all (fun c => c.before a st) := by
  induction ts with
  | nil => rfl
  | cons c t ih =>
    show (Jvm.Cond.and c (allAtoms t)).before a st = _
    rw [Jvm.Cond.before_and, ih, List.all_cons]
def words1 : List Jvm.Cond := Jvm.Cond.code x code maxLocals ret :: tables_1
/-- a 'code' word, met by the world's own term for the bytes: nothing is compared byte by byte -/
theorem code_word {y : MethodName} {bytes : ByteArray} {mx : Nat} {rt : Option FieldType} {a : Array Value} {s : State} {m : MethodId} {meth : Method} {c : Code} (h1 : s.methodNamed? y = some m) (h2 : s.vm.method? m = some meth) (h3 : meth.code = some c) (h4 : c.code = bytes)
    (h5 : (c.maxLocals == mx && c.exceptionTable.isEmpty && decide (c.maxStack ≤ mostOperands) && decide (meth.sig.returnType = rt) && !meth.locks && decide (parseMethodDescriptor y.desc = some meth.sig)) = true) : (Jvm.Cond.code y bytes mx rt).before a s = true := by
  simp only [Bool.and_eq_true, beq_iff_eq, Bool.not_eq_true', decide_eq_true_eq] at h5
  obtain ⟨⟨⟨⟨⟨g1, g2⟩, g3⟩, g4⟩, g5⟩, g6⟩ := h5
  simp [Cond.before, Cond.holds, Cond.value, h1, h2, h3, h4, g1, g2, g3, g4, g5, g6]
def isCode : Jvm.Cond → Bool
  | .code _ _ _ _ => true
  | _ => false
theorem all_split {L : List Jvm.Cond} {P : Jvm.Cond → Bool} (h1 : L.all (fun c => isCode c || P c) = true) (h2 : ∀ c ∈ L.filter isCode, P c = true) : L.all P = true := by
  refine List.all_eq_true.mpr fun c hc => ?_
  have h := List.all_eq_true.mp h1 c hc
  rcases Bool.eq_false_or_eq_true (isCode c) with hi | hi
  · exact h2 c (List.mem_filter.mpr ⟨hc, hi⟩)
  · simpa [hi] using h
set_option maxRecDepth 65536 in
theorem w_c0 : (Jvm.Cond.code x code maxLocals ret).before args0 about1 = true := code_word (m := ⟨1, 1⟩) (meth := k1m1) (c := k1c1) (by decide +kernel) rfl rfl rfl (by decide +kernel)
set_option maxRecDepth 65536 in
theorem w_c1 : (Jvm.Cond.code ({ cls := "com/example/tube2/tube2/trace/BooleanSignal", name := "<init>", desc := "(Ljava/lang/String;)V" } : Jvm.MethodName) prog_91_method_1_code (2 : Nat) (Option.none : Option Jvm.ClassFile.FieldType)).before args0 about1 = true := code_word (m := ⟨3, 0⟩) (meth := k3m0) (c := k3c0) (by decide +kernel) rfl rfl rfl (by decide +kernel)
set_option maxRecDepth 65536 in
theorem w_c2 : (Jvm.Cond.code ({ cls := "java/lang/Object", name := "<init>", desc := "()V" } : Jvm.MethodName) object_method_1_code (1 : Nat) (Option.none : Option Jvm.ClassFile.FieldType)).before args0 about1 = true := code_word (m := ⟨0, 0⟩) (meth := k0m0) (c := k0c0) (by decide +kernel) rfl rfl rfl (by decide +kernel)
set_option maxRecDepth 65536 in
theorem w_c3 : (Jvm.Cond.code ({ cls := "com/example/tube2/tube2/trace/BooleanSignal", name := "order", desc := "()[I" } : Jvm.MethodName) prog_91_method_10_code (6 : Nat) (Option.some (Jvm.ClassFile.FieldType.array Jvm.ClassFile.FieldType.int))).before args0 about1 = true := code_word (m := ⟨3, 2⟩) (meth := k3m2) (c := k3c2) (by decide +kernel) rfl rfl rfl (by decide +kernel)
set_option maxRecDepth 65536 in
theorem w_c4 : (Jvm.Cond.code ({ cls := "com/example/tube2/tube2/trace/BooleanSignalOrderPinLaw", name := "check", desc := "([IIII)Z" } : Jvm.MethodName) method_3_code (4 : Nat) (Option.some Jvm.ClassFile.FieldType.boolean)).before args0 about1 = true := code_word (m := ⟨1, 2⟩) (meth := k1m2) (c := k1c2) (by decide +kernel) rfl rfl rfl (by decide +kernel)
set_option maxRecDepth 65536 in
theorem w_c5 : (Jvm.Cond.code ({ cls := "com/example/tube2/tube2/trace/BooleanSignal", name := "add", desc := "(Z)V" } : Jvm.MethodName) prog_91_method_2_code (2 : Nat) (Option.none : Option Jvm.ClassFile.FieldType)).before args0 about1 = true := code_word (m := ⟨3, 1⟩) (meth := k3m1) (c := k3c1) (by decide +kernel) rfl rfl rfl (by decide +kernel)
def codes1 : List Jvm.Cond := [Jvm.Cond.code x code maxLocals ret, Jvm.Cond.code ({ cls := "com/example/tube2/tube2/trace/BooleanSignal", name := "<init>", desc := "(Ljava/lang/String;)V" } : Jvm.MethodName) prog_91_method_1_code (2 : Nat) (Option.none : Option Jvm.ClassFile.FieldType), Jvm.Cond.code ({ cls := "java/lang/Object", name := "<init>", desc := "()V" } : Jvm.MethodName) object_method_1_code (1 : Nat) (Option.none : Option Jvm.ClassFile.FieldType), Jvm.Cond.code ({ cls := "com/example/tube2/tube2/trace/BooleanSignal", name := "order", desc := "()[I" } : Jvm.MethodName) prog_91_method_10_code (6 : Nat) (Option.some (Jvm.ClassFile.FieldType.array Jvm.ClassFile.FieldType.int)), Jvm.Cond.code ({ cls := "com/example/tube2/tube2/trace/BooleanSignalOrderPinLaw", name := "check", desc := "([IIII)Z" } : Jvm.MethodName) method_3_code (4 : Nat) (Option.some Jvm.ClassFile.FieldType.boolean), Jvm.Cond.code ({ cls := "com/example/tube2/tube2/trace/BooleanSignal", name := "add", desc := "(Z)V" } : Jvm.MethodName) prog_91_method_2_code (2 : Nat) (Option.none : Option Jvm.ClassFile.FieldType)]
set_option maxRecDepth 65536 in
theorem codes_eq : words1.filter isCode = codes1 := rfl
theorem w_codes : ∀ c ∈ words1.filter isCode, c.before args0 about1 = true := by
  rw [codes_eq]
  intro c hc
  simp only [codes1, List.mem_cons, List.not_mem_nil, or_false] at hc
  rcases hc with rfl | rfl | rfl | rfl | rfl | rfl
  · exact w_c0
  · exact w_c1
  · exact w_c2
  · exact w_c3
  · exact w_c4
  · exact w_c5
set_option maxRecDepth 65536 in
theorem w_t1 : (words1.take 24).all (fun c => isCode c || c.before args0 about1) = true := by decide +kernel
set_option maxRecDepth 65536 in
theorem w_t2 : (words1.drop 24).all (fun c => isCode c || c.before args0 about1) = true := by decide +kernel
theorem w_tables : (allAtoms (Jvm.Cond.code x code maxLocals ret :: tables_1)).before args0 about1 = true := by
  rw [allAtoms_all]
  show words1.all (fun c => c.before args0 about1) = true
  refine all_split ?_ w_codes
  rw [← List.take_append_drop 24 words1, List.all_append, w_t1, w_t2]
  rfl
set_option maxRecDepth 65536 in
theorem w_case : (Jvm.Cond.and given_1 narrow_1).before args0 about1 = true := by decide +kernel
theorem w_applies : (headSpec (Jvm.Cond.code x code maxLocals ret :: tables_1) room_1).applies x e0.platform about1 = true :=
  (Spec.applies_iff w_frames).mpr ⟨w_running, w_runnable, w_alone, w_named, w_hears, w_ripe, w_room, w_tables⟩
theorem atStart : AtStart classFile x code maxLocals ret World_1 tables_1 room_1 Calls_1 rest_1 Pre_1 launch0 p0 e0 about1 theMethod args0 below0 :=
  ⟨lists_1, trivial, launch0.admits_env _ _ _, launch0.least_env, fairChoices_fair.cas, fairChoices_fair.clock, w_frames, w_args, w_heap, w_applies, trivial, trivial, w_case⟩
end start1
theorem witness_1 : WitnessClaimed_1 := ⟨start1.p0, start1.e0, start1.about1, start1.theMethod, start1.args0, start1.below0, start1.atStart⟩
end Jvm.Pilot.@@N@@
