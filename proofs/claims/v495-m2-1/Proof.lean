import JvmDerived
import JvmDerived.Pilot.@@N@@Statement
import JvmDerived.Pilot.@@N@@Code
set_option linter.unusedVariables false
set_option linter.unusedSimpArgs false
namespace Jvm.Pilot.@@N@@
open Jvm Jvm.ClassFile Sem Op Lib Jvm.Free Jvm.Stand Jvm.LawKit Jvm.RoadKit Bundle Jvm.Pilot.@@N@@.Jvm.D
/-- from A the run comes to B -/
def Go (p : Program) (e : Env) (below : List Frame) (A B : State) : Prop := ∀ t, Steps p.tables e below B t → Steps p.tables e below A t
def own_b (P : Prop) [Decidable P] : Int32 := if P then 1 else 0
theorem own_b1 {P : Prop} [Decidable P] (h : P) : ¬ own_b P = (0 : Int32) := by simp [own_b, h]
theorem own_b0 {P : Prop} [Decidable P] (h : ¬ P) : own_b P = (0 : Int32) := by simp [own_b, h]
theorem own_bt {P : Prop} [Decidable P] (h : P) : own_b P = (1 : Int32) := by simp [own_b, h]
theorem own_nb {P : Prop} [Decidable P] : nar .boolean (own_b P) = own_b P := by by_cases h : P <;> simp [own_b, h] <;> decide
theorem own_beq {P R : Prop} [Decidable P] [Decidable R] (h : P ↔ R) : own_b P = own_b R := by by_cases q : P <;> simp [own_b, q, ← h]
theorem d1_0 : decode method_3_code 0 = .ok (.iload_n 0, 1) := by decide +kernel
theorem d1_1 : decode method_3_code 1 = .ok (.ifCond .ne 5, 3) := by decide +kernel
theorem d1_4 : decode method_3_code 4 = .ok (.iconst 1, 1) := by decide +kernel
theorem d1_5 : decode method_3_code 5 = .ok (.ireturn, 1) := by decide +kernel
theorem d1_6 : decode method_3_code 6 = .ok (.iload_n 0, 1) := by decide +kernel
theorem d1_7 : decode method_3_code 7 = .ok (.iconst 1, 1) := by decide +kernel
theorem d1_8 : decode method_3_code 8 = .ok (.if_icmp .ne 5, 3) := by decide +kernel
theorem d1_11 : decode method_3_code 11 = .ok (.iconst 3, 1) := by decide +kernel
theorem d1_12 : decode method_3_code 12 = .ok (.ireturn, 1) := by decide +kernel
theorem d1_13 : decode method_3_code 13 = .ok (.iload_n 0, 1) := by decide +kernel
theorem d1_14 : decode method_3_code 14 = .ok (.iconst 2, 1) := by decide +kernel
theorem d1_15 : decode method_3_code 15 = .ok (.if_icmp .ne 6, 3) := by decide +kernel
theorem d1_18 : decode method_3_code 18 = .ok (.bipush 7, 2) := by decide +kernel
theorem d1_20 : decode method_3_code 20 = .ok (.ireturn, 1) := by decide +kernel
theorem d1_21 : decode method_3_code 21 = .ok (.iload_n 0, 1) := by decide +kernel
theorem d1_22 : decode method_3_code 22 = .ok (.iconst 3, 1) := by decide +kernel
theorem d1_23 : decode method_3_code 23 = .ok (.if_icmp .ne 6, 3) := by decide +kernel
theorem d1_26 : decode method_3_code 26 = .ok (.bipush 11, 2) := by decide +kernel
theorem d1_28 : decode method_3_code 28 = .ok (.ireturn, 1) := by decide +kernel
theorem d1_29 : decode method_3_code 29 = .ok (.iload_n 0, 1) := by decide +kernel
theorem d1_30 : decode method_3_code 30 = .ok (.iconst 4, 1) := by decide +kernel
theorem d1_31 : decode method_3_code 31 = .ok (.if_icmp .ne 6, 3) := by decide +kernel
theorem d1_34 : decode method_3_code 34 = .ok (.bipush 23, 2) := by decide +kernel
theorem d1_36 : decode method_3_code 36 = .ok (.ireturn, 1) := by decide +kernel
theorem d1_37 : decode method_3_code 37 = .ok (.iload_n 0, 1) := by decide +kernel
theorem d1_38 : decode method_3_code 38 = .ok (.iconst 5, 1) := by decide +kernel
theorem d1_39 : decode method_3_code 39 = .ok (.if_icmp .ne 6, 3) := by decide +kernel
theorem d1_42 : decode method_3_code 42 = .ok (.bipush 39, 2) := by decide +kernel
theorem d1_44 : decode method_3_code 44 = .ok (.ireturn, 1) := by decide +kernel
theorem d1_45 : decode method_3_code 45 = .ok (.iload_n 0, 1) := by decide +kernel
theorem d1_46 : decode method_3_code 46 = .ok (.bipush 6, 2) := by decide +kernel
theorem d1_48 : decode method_3_code 48 = .ok (.if_icmp .ne 6, 3) := by decide +kernel
theorem d1_51 : decode method_3_code 51 = .ok (.bipush 87, 2) := by decide +kernel
theorem d1_53 : decode method_3_code 53 = .ok (.ireturn, 1) := by decide +kernel
theorem d1_54 : decode method_3_code 54 = .ok (.iload_n 0, 1) := by decide +kernel
theorem d1_55 : decode method_3_code 55 = .ok (.bipush 7, 2) := by decide +kernel
theorem d1_57 : decode method_3_code 57 = .ok (.if_icmp .ne 7, 3) := by decide +kernel
theorem d1_60 : decode method_3_code 60 = .ok (.sipush 151, 3) := by decide +kernel
theorem d1_63 : decode method_3_code 63 = .ok (.ireturn, 1) := by decide +kernel
theorem d1_64 : decode method_3_code 64 = .ok (.iload_n 0, 1) := by decide +kernel
theorem d1_65 : decode method_3_code 65 = .ok (.bipush 8, 2) := by decide +kernel
theorem d1_67 : decode method_3_code 67 = .ok (.if_icmp .ne 7, 3) := by decide +kernel
theorem d1_70 : decode method_3_code 70 = .ok (.sipush 257, 3) := by decide +kernel
theorem d1_73 : decode method_3_code 73 = .ok (.ireturn, 1) := by decide +kernel
theorem d1_74 : decode method_3_code 74 = .ok (.sipush 769, 3) := by decide +kernel
theorem d1_77 : decode method_3_code 77 = .ok (.ireturn, 1) := by decide +kernel
theorem d2_0 : decode method_2_code 0 = .ok (.iload_n 0, 1) := by decide +kernel
theorem d2_1 : decode method_2_code 1 = .ok (.ifCond .ne 7, 3) := by decide +kernel
theorem d2_4 : decode method_2_code 4 = .ok (.getstatic 7, 3) := by decide +kernel
theorem d2_7 : decode method_2_code 7 = .ok (.areturn, 1) := by decide +kernel
theorem d2_8 : decode method_2_code 8 = .ok (.iload_n 0, 1) := by decide +kernel
theorem d2_9 : decode method_2_code 9 = .ok (.iconst 1, 1) := by decide +kernel
theorem d2_10 : decode method_2_code 10 = .ok (.if_icmp .ne 7, 3) := by decide +kernel
theorem d2_13 : decode method_2_code 13 = .ok (.getstatic 13, 3) := by decide +kernel
theorem d2_16 : decode method_2_code 16 = .ok (.areturn, 1) := by decide +kernel
theorem d2_17 : decode method_2_code 17 = .ok (.iload_n 0, 1) := by decide +kernel
theorem d2_18 : decode method_2_code 18 = .ok (.iconst 2, 1) := by decide +kernel
theorem d2_19 : decode method_2_code 19 = .ok (.if_icmp .ne 7, 3) := by decide +kernel
theorem d2_22 : decode method_2_code 22 = .ok (.getstatic 16, 3) := by decide +kernel
theorem d2_25 : decode method_2_code 25 = .ok (.areturn, 1) := by decide +kernel
theorem d2_26 : decode method_2_code 26 = .ok (.iload_n 0, 1) := by decide +kernel
theorem d2_27 : decode method_2_code 27 = .ok (.iconst 3, 1) := by decide +kernel
theorem d2_28 : decode method_2_code 28 = .ok (.if_icmp .ne 7, 3) := by decide +kernel
theorem d2_31 : decode method_2_code 31 = .ok (.getstatic 19, 3) := by decide +kernel
theorem d2_34 : decode method_2_code 34 = .ok (.areturn, 1) := by decide +kernel
theorem d2_35 : decode method_2_code 35 = .ok (.iload_n 0, 1) := by decide +kernel
theorem d2_36 : decode method_2_code 36 = .ok (.iconst 4, 1) := by decide +kernel
theorem d2_37 : decode method_2_code 37 = .ok (.if_icmp .ne 7, 3) := by decide +kernel
theorem d2_40 : decode method_2_code 40 = .ok (.getstatic 22, 3) := by decide +kernel
theorem d2_43 : decode method_2_code 43 = .ok (.areturn, 1) := by decide +kernel
theorem d2_44 : decode method_2_code 44 = .ok (.iload_n 0, 1) := by decide +kernel
theorem d2_45 : decode method_2_code 45 = .ok (.iconst 5, 1) := by decide +kernel
theorem d2_46 : decode method_2_code 46 = .ok (.if_icmp .ne 7, 3) := by decide +kernel
theorem d2_49 : decode method_2_code 49 = .ok (.getstatic 25, 3) := by decide +kernel
theorem d2_52 : decode method_2_code 52 = .ok (.areturn, 1) := by decide +kernel
theorem d2_53 : decode method_2_code 53 = .ok (.iload_n 0, 1) := by decide +kernel
theorem d2_54 : decode method_2_code 54 = .ok (.bipush 6, 2) := by decide +kernel
theorem d2_56 : decode method_2_code 56 = .ok (.if_icmp .ne 7, 3) := by decide +kernel
theorem d2_59 : decode method_2_code 59 = .ok (.getstatic 28, 3) := by decide +kernel
theorem d2_62 : decode method_2_code 62 = .ok (.areturn, 1) := by decide +kernel
theorem d2_63 : decode method_2_code 63 = .ok (.iload_n 0, 1) := by decide +kernel
theorem d2_64 : decode method_2_code 64 = .ok (.bipush 7, 2) := by decide +kernel
theorem d2_66 : decode method_2_code 66 = .ok (.if_icmp .ne 7, 3) := by decide +kernel
theorem d2_69 : decode method_2_code 69 = .ok (.getstatic 31, 3) := by decide +kernel
theorem d2_72 : decode method_2_code 72 = .ok (.areturn, 1) := by decide +kernel
theorem d2_73 : decode method_2_code 73 = .ok (.iload_n 0, 1) := by decide +kernel
theorem d2_74 : decode method_2_code 74 = .ok (.bipush 8, 2) := by decide +kernel
theorem d2_76 : decode method_2_code 76 = .ok (.if_icmp .ne 7, 3) := by decide +kernel
theorem d2_79 : decode method_2_code 79 = .ok (.getstatic 34, 3) := by decide +kernel
theorem d2_82 : decode method_2_code 82 = .ok (.areturn, 1) := by decide +kernel
theorem d2_83 : decode method_2_code 83 = .ok (.getstatic 37, 3) := by decide +kernel
theorem d2_86 : decode method_2_code 86 = .ok (.areturn, 1) := by decide +kernel
theorem d3_0 : decode prog_116_method_8_code 0 = .ok (.aload_n 0, 1) := by decide +kernel
theorem d3_1 : decode prog_116_method_8_code 1 = .ok (.astore_n 2, 1) := by decide +kernel
theorem d3_2 : decode prog_116_method_8_code 2 = .ok (.aload_n 2, 1) := by decide +kernel
theorem d3_3 : decode prog_116_method_8_code 3 = .ok (.ifnull 16, 3) := by decide +kernel
theorem d3_6 : decode prog_116_method_8_code 6 = .ok (.aload_n 2, 1) := by decide +kernel
theorem d3_7 : decode prog_116_method_8_code 7 = .ok (.aload_n 1, 1) := by decide +kernel
theorem d3_8 : decode prog_116_method_8_code 8 = .ok (.if_acmp .eq 11, 3) := by decide +kernel
theorem d3_11 : decode prog_116_method_8_code 11 = .ok (.aload_n 2, 1) := by decide +kernel
theorem d3_12 : decode prog_116_method_8_code 12 = .ok (.getfield 63, 3) := by decide +kernel
theorem d3_15 : decode prog_116_method_8_code 15 = .ok (.astore_n 2, 1) := by decide +kernel
theorem d3_16 : decode prog_116_method_8_code 16 = .ok (.goto (-14), 3) := by decide +kernel
theorem d3_19 : decode prog_116_method_8_code 19 = .ok (.aload_n 2, 1) := by decide +kernel
theorem d3_20 : decode prog_116_method_8_code 20 = .ok (.aload_n 1, 1) := by decide +kernel
theorem d3_21 : decode prog_116_method_8_code 21 = .ok (.if_acmp .ne 7, 3) := by decide +kernel
theorem d3_24 : decode prog_116_method_8_code 24 = .ok (.iconst 1, 1) := by decide +kernel
theorem d3_25 : decode prog_116_method_8_code 25 = .ok (.goto 4, 3) := by decide +kernel
theorem d3_28 : decode prog_116_method_8_code 28 = .ok (.iconst 0, 1) := by decide +kernel
theorem d3_29 : decode prog_116_method_8_code 29 = .ok (.ireturn, 1) := by decide +kernel
theorem pn_0 : plainName "com/example/halyard/halyard/server/ReferenceTypeIsSubtypeOfPinLaw" = true := by first | (simp [plainName, overriddenIn]; done) | decide +kernel
theorem pn_1 : plainName "com/example/halyard/halyard/server/ReferenceType" = true := by first | (simp [plainName, overriddenIn]; done) | decide +kernel
theorem pd_0 : parseMethodDescriptor "(I)I" = some ⟨[.int], some .int⟩ := by decide +kernel
theorem pd_1 : parseMethodDescriptor "(I)Lcom/example/halyard/halyard/server/ReferenceType;" = some ⟨[.int], some (.object "com/example/halyard/halyard/server/ReferenceType")⟩ := by decide +kernel
theorem pd_2 : parseMethodDescriptor "(Lcom/example/halyard/halyard/server/ReferenceType;)Z" = some ⟨[(.object "com/example/halyard/halyard/server/ReferenceType")], some .boolean⟩ := by decide +kernel
theorem ef_rm1 (m : MethodId) (x0 : Int32) : entryFrame m #[(.int x0)] 1 = mkF m 0 #[.val (.int x0)] [] := by first | (simp [entryFrame, mkF, argsToLocals, Value.category]; done) | rfl
theorem ef_rm2 (m : MethodId) (x0 : Int32) : entryFrame m #[(.int x0)] 1 = mkF m 0 #[.val (.int x0)] [] := by first | (simp [entryFrame, mkF, argsToLocals, Value.category]; done) | rfl
theorem ef_rm3_0 (m : MethodId) (x0 : Addr) (x1 : Addr) : entryFrame m #[(.ref x0), (.ref x1)] 3 = mkF m 0 #[.val (.ref x0), .val (.ref x1), .unset] [] := by first | (simp [entryFrame, mkF, argsToLocals, Value.category]; done) | rfl
theorem ef_rm3_1 (m : MethodId) (x0 : Addr) (x1 : Addr) : entryFrame m #[(.ref x0), (.ref x1)] 3 = mkF m 0 #[.val (.ref x0), .val (.ref x1), .unset] [] := by first | (simp [entryFrame, mkF, argsToLocals, Value.category]; done) | rfl
theorem ef_rm3_2 (m : MethodId) (x0 : Addr) (x1 : Addr) : entryFrame m #[(.ref x0), (.ref x1)] 3 = mkF m 0 #[.val (.ref x0), .val (.ref x1), .unset] [] := by first | (simp [entryFrame, mkF, argsToLocals, Value.category]; done) | rfl
theorem ef_rm3_3 (m : MethodId) (x0 : Addr) (x1 : Addr) : entryFrame m #[(.ref x0), (.ref x1)] 3 = mkF m 0 #[.val (.ref x0), .val (.ref x1), .unset] [] := by first | (simp [entryFrame, mkF, argsToLocals, Value.category]; done) | rfl
theorem ef_rm3_4 (m : MethodId) (x0 : Addr) (x1 : Addr) : entryFrame m #[(.ref x0), (.ref x1)] 3 = mkF m 0 #[.val (.ref x0), .val (.ref x1), .unset] [] := by first | (simp [entryFrame, mkF, argsToLocals, Value.category]; done) | rfl
theorem ef_rm3_5 (m : MethodId) (x0 : Addr) (x1 : Addr) : entryFrame m #[(.ref x0), (.ref x1)] 3 = mkF m 0 #[.val (.ref x0), .val (.ref x1), .unset] [] := by first | (simp [entryFrame, mkF, argsToLocals, Value.category]; done) | rfl
theorem ef_rm3_6 (m : MethodId) (x0 : Addr) (x1 : Addr) : entryFrame m #[(.ref x0), (.ref x1)] 3 = mkF m 0 #[.val (.ref x0), .val (.ref x1), .unset] [] := by first | (simp [entryFrame, mkF, argsToLocals, Value.category]; done) | rfl
theorem ef_rm3_7 (m : MethodId) (x0 : Addr) (x1 : Addr) : entryFrame m #[(.ref x0), (.ref x1)] 3 = mkF m 0 #[.val (.ref x0), .val (.ref x1), .unset] [] := by first | (simp [entryFrame, mkF, argsToLocals, Value.category]; done) | rfl
theorem ef_rm3_8 (m : MethodId) (x0 : Addr) (x1 : Addr) : entryFrame m #[(.ref x0), (.ref x1)] 3 = mkF m 0 #[.val (.ref x0), .val (.ref x1), .unset] [] := by first | (simp [entryFrame, mkF, argsToLocals, Value.category]; done) | rfl
theorem ef_rm3_9 (m : MethodId) (x0 : Addr) (x1 : Addr) : entryFrame m #[(.ref x0), (.ref x1)] 3 = mkF m 0 #[.val (.ref x0), .val (.ref x1), .unset] [] := by first | (simp [entryFrame, mkF, argsToLocals, Value.category]; done) | rfl
theorem ef_rm0 (m : MethodId) (x0 : Int32) (x1 : Int32) : entryFrame m #[(.int x0), (.int x1)] maxLocals = mkF m 0 #[.val (.int x0), .val (.int x1), .unset, .unset, .unset, .unset] [] := by first | (simp [entryFrame, mkF, argsToLocals, Value.category, maxLocals]; done) | rfl
theorem own_eqI {args : Array Value} {s : State} {t : Term} {k : Int32} (h : (Jvm.Cond.eq t (.int k)).value args s none s [] = some true) : t.eval args s none [] s = some (.int k) := by
  simp only [Cond.value, Term.eval] at h
  cases ht : t.eval args s none [] s with
  | none => simp [ht] at h
  | some x => cases x <;> simp [ht] at h ⊢; exact h
theorem own_eqR {args : Array Value} {s : State} {t u : Term} {b : Addr} (h : (Jvm.Cond.eq t u).value args s none s [] = some true) (hu : u.eval args s none [] s = some (.ref b)) : t.eval args s none [] s = some (.ref b) := by
  simp only [Cond.value, hu] at h
  cases ht : t.eval args s none [] s with
  | none => simp [ht] at h
  | some x => cases x <;> simp [ht] at h ⊢; exact h
def own_pick (a_References a_HierarchicalReferences a_HasChild a_Organizes a_Aggregates a_HasSubtype a_HasProperty a_HasComponent a_NonHierarchicalReferences a_HasTypeDefinition : Addr) (b : Int32) : Addr := if b = (0 : Int32) then a_References else if b = (1 : Int32) then a_HierarchicalReferences else if b = (2 : Int32) then a_HasChild else if b = (3 : Int32) then a_Organizes else if b = (4 : Int32) then a_Aggregates else if b = (5 : Int32) then a_HasSubtype else if b = (6 : Int32) then a_HasProperty else if b = (7 : Int32) then a_HasComponent else if b = (8 : Int32) then a_NonHierarchicalReferences else a_HasTypeDefinition
def own_anc (b : Int32) : Int32 := if b = (0 : Int32) then (1 : Int32) else if b = (1 : Int32) then (3 : Int32) else if b = (2 : Int32) then (7 : Int32) else if b = (3 : Int32) then (11 : Int32) else if b = (4 : Int32) then (23 : Int32) else if b = (5 : Int32) then (39 : Int32) else if b = (6 : Int32) then (87 : Int32) else if b = (7 : Int32) then (151 : Int32) else if b = (8 : Int32) then (257 : Int32) else (769 : Int32)
def own_Dist (a_References a_HierarchicalReferences a_HasChild a_Organizes a_Aggregates a_HasSubtype a_HasProperty a_HasComponent a_NonHierarchicalReferences a_HasTypeDefinition : Addr) : Prop := ¬ (a_References = a_HierarchicalReferences) ∧ ¬ (a_References = a_HasChild) ∧ ¬ (a_References = a_Organizes) ∧ ¬ (a_References = a_Aggregates) ∧ ¬ (a_References = a_HasSubtype) ∧ ¬ (a_References = a_HasProperty) ∧ ¬ (a_References = a_HasComponent) ∧ ¬ (a_References = a_NonHierarchicalReferences) ∧ ¬ (a_References = a_HasTypeDefinition) ∧ ¬ (a_HierarchicalReferences = a_HasChild) ∧ ¬ (a_HierarchicalReferences = a_Organizes) ∧ ¬ (a_HierarchicalReferences = a_Aggregates) ∧ ¬ (a_HierarchicalReferences = a_HasSubtype) ∧ ¬ (a_HierarchicalReferences = a_HasProperty) ∧ ¬ (a_HierarchicalReferences = a_HasComponent) ∧ ¬ (a_HierarchicalReferences = a_NonHierarchicalReferences) ∧ ¬ (a_HierarchicalReferences = a_HasTypeDefinition) ∧ ¬ (a_HasChild = a_Organizes) ∧ ¬ (a_HasChild = a_Aggregates) ∧ ¬ (a_HasChild = a_HasSubtype) ∧ ¬ (a_HasChild = a_HasProperty) ∧ ¬ (a_HasChild = a_HasComponent) ∧ ¬ (a_HasChild = a_NonHierarchicalReferences) ∧ ¬ (a_HasChild = a_HasTypeDefinition) ∧ ¬ (a_Organizes = a_Aggregates) ∧ ¬ (a_Organizes = a_HasSubtype) ∧ ¬ (a_Organizes = a_HasProperty) ∧ ¬ (a_Organizes = a_HasComponent) ∧ ¬ (a_Organizes = a_NonHierarchicalReferences) ∧ ¬ (a_Organizes = a_HasTypeDefinition) ∧ ¬ (a_Aggregates = a_HasSubtype) ∧ ¬ (a_Aggregates = a_HasProperty) ∧ ¬ (a_Aggregates = a_HasComponent) ∧ ¬ (a_Aggregates = a_NonHierarchicalReferences) ∧ ¬ (a_Aggregates = a_HasTypeDefinition) ∧ ¬ (a_HasSubtype = a_HasProperty) ∧ ¬ (a_HasSubtype = a_HasComponent) ∧ ¬ (a_HasSubtype = a_NonHierarchicalReferences) ∧ ¬ (a_HasSubtype = a_HasTypeDefinition) ∧ ¬ (a_HasProperty = a_HasComponent) ∧ ¬ (a_HasProperty = a_NonHierarchicalReferences) ∧ ¬ (a_HasProperty = a_HasTypeDefinition) ∧ ¬ (a_HasComponent = a_NonHierarchicalReferences) ∧ ¬ (a_HasComponent = a_HasTypeDefinition) ∧ ¬ (a_NonHierarchicalReferences = a_HasTypeDefinition)
def own_Ten (b : Int32) : Prop := b = (0 : Int32) ∨ b = (1 : Int32) ∨ b = (2 : Int32) ∨ b = (3 : Int32) ∨ b = (4 : Int32) ∨ b = (5 : Int32) ∨ b = (6 : Int32) ∨ b = (7 : Int32) ∨ b = (8 : Int32) ∨ b = (9 : Int32)
theorem own_ten (x : Int32) : own_Ten ((x &&& (2147483647 : Int32)) % (10 : Int32)) := by
  have a1 := (c_and x 2147483647 (by decide)).1
  have a2 := (c_irem (x &&& 2147483647) 10 10 (by decide)).1 a1
  have e : ∀ k : Int32, ((x &&& 2147483647) % 10) = k ↔ (x &&& 2147483647).toInt % 10 = k.toInt := fun k => by rw [← Int32.toInt_inj, a2]
  simp only [own_Ten, e]
  have h0 : (0 : Int32).toInt = 0 := by decide
  have h1 : (1 : Int32).toInt = 1 := by decide
  have h2 : (2 : Int32).toInt = 2 := by decide
  have h3 : (3 : Int32).toInt = 3 := by decide
  have h4 : (4 : Int32).toInt = 4 := by decide
  have h5 : (5 : Int32).toInt = 5 := by decide
  have h6 : (6 : Int32).toInt = 6 := by decide
  have h7 : (7 : Int32).toInt = 7 := by decide
  have h8 : (8 : Int32).toInt = 8 := by decide
  have h9 : (9 : Int32).toInt = 9 := by decide
  rw [h0, h1, h2, h3, h4, h5, h6, h7, h8, h9]
  omega
theorem own_sub_0 (a_References a_HierarchicalReferences a_HasChild a_Organizes a_Aggregates a_HasSubtype a_HasProperty a_HasComponent a_NonHierarchicalReferences a_HasTypeDefinition : Addr) (hd : own_Dist a_References a_HierarchicalReferences a_HasChild a_Organizes a_Aggregates a_HasSubtype a_HasProperty a_HasComponent a_NonHierarchicalReferences a_HasTypeDefinition) (b : Int32) (hb : own_Ten b) : own_b (a_References = own_pick a_References a_HierarchicalReferences a_HasChild a_Organizes a_Aggregates a_HasSubtype a_HasProperty a_HasComponent a_NonHierarchicalReferences a_HasTypeDefinition b) = own_b (¬ ((((1 : Int32) >>> (b &&& 31)) &&& (1 : Int32)) = (0 : Int32))) := by
  obtain ⟨n_0_1, n_0_2, n_0_3, n_0_4, n_0_5, n_0_6, n_0_7, n_0_8, n_0_9, n_1_2, n_1_3, n_1_4, n_1_5, n_1_6, n_1_7, n_1_8, n_1_9, n_2_3, n_2_4, n_2_5, n_2_6, n_2_7, n_2_8, n_2_9, n_3_4, n_3_5, n_3_6, n_3_7, n_3_8, n_3_9, n_4_5, n_4_6, n_4_7, n_4_8, n_4_9, n_5_6, n_5_7, n_5_8, n_5_9, n_6_7, n_6_8, n_6_9, n_7_8, n_7_9, n_8_9⟩ := hd
  rcases hb with rfl | rfl | rfl | rfl | rfl | rfl | rfl | rfl | rfl | rfl
  · exact (own_bt (show (a_References = a_References) from rfl)).trans (own_bt (by decide)).symm
  · exact (own_b0 (show ¬ (a_References = a_HierarchicalReferences) from fun q => n_0_1 q)).trans (own_b0 (by decide)).symm
  · exact (own_b0 (show ¬ (a_References = a_HasChild) from fun q => n_0_2 q)).trans (own_b0 (by decide)).symm
  · exact (own_b0 (show ¬ (a_References = a_Organizes) from fun q => n_0_3 q)).trans (own_b0 (by decide)).symm
  · exact (own_b0 (show ¬ (a_References = a_Aggregates) from fun q => n_0_4 q)).trans (own_b0 (by decide)).symm
  · exact (own_b0 (show ¬ (a_References = a_HasSubtype) from fun q => n_0_5 q)).trans (own_b0 (by decide)).symm
  · exact (own_b0 (show ¬ (a_References = a_HasProperty) from fun q => n_0_6 q)).trans (own_b0 (by decide)).symm
  · exact (own_b0 (show ¬ (a_References = a_HasComponent) from fun q => n_0_7 q)).trans (own_b0 (by decide)).symm
  · exact (own_b0 (show ¬ (a_References = a_NonHierarchicalReferences) from fun q => n_0_8 q)).trans (own_b0 (by decide)).symm
  · exact (own_b0 (show ¬ (a_References = a_HasTypeDefinition) from fun q => n_0_9 q)).trans (own_b0 (by decide)).symm
theorem own_sub_1 (a_References a_HierarchicalReferences a_HasChild a_Organizes a_Aggregates a_HasSubtype a_HasProperty a_HasComponent a_NonHierarchicalReferences a_HasTypeDefinition : Addr) (hd : own_Dist a_References a_HierarchicalReferences a_HasChild a_Organizes a_Aggregates a_HasSubtype a_HasProperty a_HasComponent a_NonHierarchicalReferences a_HasTypeDefinition) (b : Int32) (hb : own_Ten b) : own_b (a_HierarchicalReferences = own_pick a_References a_HierarchicalReferences a_HasChild a_Organizes a_Aggregates a_HasSubtype a_HasProperty a_HasComponent a_NonHierarchicalReferences a_HasTypeDefinition b ∨ a_References = own_pick a_References a_HierarchicalReferences a_HasChild a_Organizes a_Aggregates a_HasSubtype a_HasProperty a_HasComponent a_NonHierarchicalReferences a_HasTypeDefinition b) = own_b (¬ ((((3 : Int32) >>> (b &&& 31)) &&& (1 : Int32)) = (0 : Int32))) := by
  obtain ⟨n_0_1, n_0_2, n_0_3, n_0_4, n_0_5, n_0_6, n_0_7, n_0_8, n_0_9, n_1_2, n_1_3, n_1_4, n_1_5, n_1_6, n_1_7, n_1_8, n_1_9, n_2_3, n_2_4, n_2_5, n_2_6, n_2_7, n_2_8, n_2_9, n_3_4, n_3_5, n_3_6, n_3_7, n_3_8, n_3_9, n_4_5, n_4_6, n_4_7, n_4_8, n_4_9, n_5_6, n_5_7, n_5_8, n_5_9, n_6_7, n_6_8, n_6_9, n_7_8, n_7_9, n_8_9⟩ := hd
  rcases hb with rfl | rfl | rfl | rfl | rfl | rfl | rfl | rfl | rfl | rfl
  · exact (own_bt (show (a_HierarchicalReferences = a_References ∨ a_References = a_References) from Or.inr (rfl))).trans (own_bt (by decide)).symm
  · exact (own_bt (show (a_HierarchicalReferences = a_HierarchicalReferences ∨ a_References = a_HierarchicalReferences) from Or.inl rfl)).trans (own_bt (by decide)).symm
  · exact (own_b0 (show ¬ (a_HierarchicalReferences = a_HasChild ∨ a_References = a_HasChild) from fun q => q.elim n_1_2 (fun q => n_0_2 q))).trans (own_b0 (by decide)).symm
  · exact (own_b0 (show ¬ (a_HierarchicalReferences = a_Organizes ∨ a_References = a_Organizes) from fun q => q.elim n_1_3 (fun q => n_0_3 q))).trans (own_b0 (by decide)).symm
  · exact (own_b0 (show ¬ (a_HierarchicalReferences = a_Aggregates ∨ a_References = a_Aggregates) from fun q => q.elim n_1_4 (fun q => n_0_4 q))).trans (own_b0 (by decide)).symm
  · exact (own_b0 (show ¬ (a_HierarchicalReferences = a_HasSubtype ∨ a_References = a_HasSubtype) from fun q => q.elim n_1_5 (fun q => n_0_5 q))).trans (own_b0 (by decide)).symm
  · exact (own_b0 (show ¬ (a_HierarchicalReferences = a_HasProperty ∨ a_References = a_HasProperty) from fun q => q.elim n_1_6 (fun q => n_0_6 q))).trans (own_b0 (by decide)).symm
  · exact (own_b0 (show ¬ (a_HierarchicalReferences = a_HasComponent ∨ a_References = a_HasComponent) from fun q => q.elim n_1_7 (fun q => n_0_7 q))).trans (own_b0 (by decide)).symm
  · exact (own_b0 (show ¬ (a_HierarchicalReferences = a_NonHierarchicalReferences ∨ a_References = a_NonHierarchicalReferences) from fun q => q.elim n_1_8 (fun q => n_0_8 q))).trans (own_b0 (by decide)).symm
  · exact (own_b0 (show ¬ (a_HierarchicalReferences = a_HasTypeDefinition ∨ a_References = a_HasTypeDefinition) from fun q => q.elim n_1_9 (fun q => n_0_9 q))).trans (own_b0 (by decide)).symm
theorem own_sub_2 (a_References a_HierarchicalReferences a_HasChild a_Organizes a_Aggregates a_HasSubtype a_HasProperty a_HasComponent a_NonHierarchicalReferences a_HasTypeDefinition : Addr) (hd : own_Dist a_References a_HierarchicalReferences a_HasChild a_Organizes a_Aggregates a_HasSubtype a_HasProperty a_HasComponent a_NonHierarchicalReferences a_HasTypeDefinition) (b : Int32) (hb : own_Ten b) : own_b (a_HasChild = own_pick a_References a_HierarchicalReferences a_HasChild a_Organizes a_Aggregates a_HasSubtype a_HasProperty a_HasComponent a_NonHierarchicalReferences a_HasTypeDefinition b ∨ a_HierarchicalReferences = own_pick a_References a_HierarchicalReferences a_HasChild a_Organizes a_Aggregates a_HasSubtype a_HasProperty a_HasComponent a_NonHierarchicalReferences a_HasTypeDefinition b ∨ a_References = own_pick a_References a_HierarchicalReferences a_HasChild a_Organizes a_Aggregates a_HasSubtype a_HasProperty a_HasComponent a_NonHierarchicalReferences a_HasTypeDefinition b) = own_b (¬ ((((7 : Int32) >>> (b &&& 31)) &&& (1 : Int32)) = (0 : Int32))) := by
  obtain ⟨n_0_1, n_0_2, n_0_3, n_0_4, n_0_5, n_0_6, n_0_7, n_0_8, n_0_9, n_1_2, n_1_3, n_1_4, n_1_5, n_1_6, n_1_7, n_1_8, n_1_9, n_2_3, n_2_4, n_2_5, n_2_6, n_2_7, n_2_8, n_2_9, n_3_4, n_3_5, n_3_6, n_3_7, n_3_8, n_3_9, n_4_5, n_4_6, n_4_7, n_4_8, n_4_9, n_5_6, n_5_7, n_5_8, n_5_9, n_6_7, n_6_8, n_6_9, n_7_8, n_7_9, n_8_9⟩ := hd
  rcases hb with rfl | rfl | rfl | rfl | rfl | rfl | rfl | rfl | rfl | rfl
  · exact (own_bt (show (a_HasChild = a_References ∨ a_HierarchicalReferences = a_References ∨ a_References = a_References) from Or.inr (Or.inr (rfl)))).trans (own_bt (by decide)).symm
  · exact (own_bt (show (a_HasChild = a_HierarchicalReferences ∨ a_HierarchicalReferences = a_HierarchicalReferences ∨ a_References = a_HierarchicalReferences) from Or.inr (Or.inl rfl))).trans (own_bt (by decide)).symm
  · exact (own_bt (show (a_HasChild = a_HasChild ∨ a_HierarchicalReferences = a_HasChild ∨ a_References = a_HasChild) from Or.inl rfl)).trans (own_bt (by decide)).symm
  · exact (own_b0 (show ¬ (a_HasChild = a_Organizes ∨ a_HierarchicalReferences = a_Organizes ∨ a_References = a_Organizes) from fun q => q.elim n_2_3 (fun q => q.elim n_1_3 (fun q => n_0_3 q)))).trans (own_b0 (by decide)).symm
  · exact (own_b0 (show ¬ (a_HasChild = a_Aggregates ∨ a_HierarchicalReferences = a_Aggregates ∨ a_References = a_Aggregates) from fun q => q.elim n_2_4 (fun q => q.elim n_1_4 (fun q => n_0_4 q)))).trans (own_b0 (by decide)).symm
  · exact (own_b0 (show ¬ (a_HasChild = a_HasSubtype ∨ a_HierarchicalReferences = a_HasSubtype ∨ a_References = a_HasSubtype) from fun q => q.elim n_2_5 (fun q => q.elim n_1_5 (fun q => n_0_5 q)))).trans (own_b0 (by decide)).symm
  · exact (own_b0 (show ¬ (a_HasChild = a_HasProperty ∨ a_HierarchicalReferences = a_HasProperty ∨ a_References = a_HasProperty) from fun q => q.elim n_2_6 (fun q => q.elim n_1_6 (fun q => n_0_6 q)))).trans (own_b0 (by decide)).symm
  · exact (own_b0 (show ¬ (a_HasChild = a_HasComponent ∨ a_HierarchicalReferences = a_HasComponent ∨ a_References = a_HasComponent) from fun q => q.elim n_2_7 (fun q => q.elim n_1_7 (fun q => n_0_7 q)))).trans (own_b0 (by decide)).symm
  · exact (own_b0 (show ¬ (a_HasChild = a_NonHierarchicalReferences ∨ a_HierarchicalReferences = a_NonHierarchicalReferences ∨ a_References = a_NonHierarchicalReferences) from fun q => q.elim n_2_8 (fun q => q.elim n_1_8 (fun q => n_0_8 q)))).trans (own_b0 (by decide)).symm
  · exact (own_b0 (show ¬ (a_HasChild = a_HasTypeDefinition ∨ a_HierarchicalReferences = a_HasTypeDefinition ∨ a_References = a_HasTypeDefinition) from fun q => q.elim n_2_9 (fun q => q.elim n_1_9 (fun q => n_0_9 q)))).trans (own_b0 (by decide)).symm
theorem own_sub_3 (a_References a_HierarchicalReferences a_HasChild a_Organizes a_Aggregates a_HasSubtype a_HasProperty a_HasComponent a_NonHierarchicalReferences a_HasTypeDefinition : Addr) (hd : own_Dist a_References a_HierarchicalReferences a_HasChild a_Organizes a_Aggregates a_HasSubtype a_HasProperty a_HasComponent a_NonHierarchicalReferences a_HasTypeDefinition) (b : Int32) (hb : own_Ten b) : own_b (a_Organizes = own_pick a_References a_HierarchicalReferences a_HasChild a_Organizes a_Aggregates a_HasSubtype a_HasProperty a_HasComponent a_NonHierarchicalReferences a_HasTypeDefinition b ∨ a_HierarchicalReferences = own_pick a_References a_HierarchicalReferences a_HasChild a_Organizes a_Aggregates a_HasSubtype a_HasProperty a_HasComponent a_NonHierarchicalReferences a_HasTypeDefinition b ∨ a_References = own_pick a_References a_HierarchicalReferences a_HasChild a_Organizes a_Aggregates a_HasSubtype a_HasProperty a_HasComponent a_NonHierarchicalReferences a_HasTypeDefinition b) = own_b (¬ ((((11 : Int32) >>> (b &&& 31)) &&& (1 : Int32)) = (0 : Int32))) := by
  obtain ⟨n_0_1, n_0_2, n_0_3, n_0_4, n_0_5, n_0_6, n_0_7, n_0_8, n_0_9, n_1_2, n_1_3, n_1_4, n_1_5, n_1_6, n_1_7, n_1_8, n_1_9, n_2_3, n_2_4, n_2_5, n_2_6, n_2_7, n_2_8, n_2_9, n_3_4, n_3_5, n_3_6, n_3_7, n_3_8, n_3_9, n_4_5, n_4_6, n_4_7, n_4_8, n_4_9, n_5_6, n_5_7, n_5_8, n_5_9, n_6_7, n_6_8, n_6_9, n_7_8, n_7_9, n_8_9⟩ := hd
  rcases hb with rfl | rfl | rfl | rfl | rfl | rfl | rfl | rfl | rfl | rfl
  · exact (own_bt (show (a_Organizes = a_References ∨ a_HierarchicalReferences = a_References ∨ a_References = a_References) from Or.inr (Or.inr (rfl)))).trans (own_bt (by decide)).symm
  · exact (own_bt (show (a_Organizes = a_HierarchicalReferences ∨ a_HierarchicalReferences = a_HierarchicalReferences ∨ a_References = a_HierarchicalReferences) from Or.inr (Or.inl rfl))).trans (own_bt (by decide)).symm
  · exact (own_b0 (show ¬ (a_Organizes = a_HasChild ∨ a_HierarchicalReferences = a_HasChild ∨ a_References = a_HasChild) from fun q => q.elim (fun q => n_2_3 q.symm) (fun q => q.elim n_1_2 (fun q => n_0_2 q)))).trans (own_b0 (by decide)).symm
  · exact (own_bt (show (a_Organizes = a_Organizes ∨ a_HierarchicalReferences = a_Organizes ∨ a_References = a_Organizes) from Or.inl rfl)).trans (own_bt (by decide)).symm
  · exact (own_b0 (show ¬ (a_Organizes = a_Aggregates ∨ a_HierarchicalReferences = a_Aggregates ∨ a_References = a_Aggregates) from fun q => q.elim n_3_4 (fun q => q.elim n_1_4 (fun q => n_0_4 q)))).trans (own_b0 (by decide)).symm
  · exact (own_b0 (show ¬ (a_Organizes = a_HasSubtype ∨ a_HierarchicalReferences = a_HasSubtype ∨ a_References = a_HasSubtype) from fun q => q.elim n_3_5 (fun q => q.elim n_1_5 (fun q => n_0_5 q)))).trans (own_b0 (by decide)).symm
  · exact (own_b0 (show ¬ (a_Organizes = a_HasProperty ∨ a_HierarchicalReferences = a_HasProperty ∨ a_References = a_HasProperty) from fun q => q.elim n_3_6 (fun q => q.elim n_1_6 (fun q => n_0_6 q)))).trans (own_b0 (by decide)).symm
  · exact (own_b0 (show ¬ (a_Organizes = a_HasComponent ∨ a_HierarchicalReferences = a_HasComponent ∨ a_References = a_HasComponent) from fun q => q.elim n_3_7 (fun q => q.elim n_1_7 (fun q => n_0_7 q)))).trans (own_b0 (by decide)).symm
  · exact (own_b0 (show ¬ (a_Organizes = a_NonHierarchicalReferences ∨ a_HierarchicalReferences = a_NonHierarchicalReferences ∨ a_References = a_NonHierarchicalReferences) from fun q => q.elim n_3_8 (fun q => q.elim n_1_8 (fun q => n_0_8 q)))).trans (own_b0 (by decide)).symm
  · exact (own_b0 (show ¬ (a_Organizes = a_HasTypeDefinition ∨ a_HierarchicalReferences = a_HasTypeDefinition ∨ a_References = a_HasTypeDefinition) from fun q => q.elim n_3_9 (fun q => q.elim n_1_9 (fun q => n_0_9 q)))).trans (own_b0 (by decide)).symm
theorem own_sub_4 (a_References a_HierarchicalReferences a_HasChild a_Organizes a_Aggregates a_HasSubtype a_HasProperty a_HasComponent a_NonHierarchicalReferences a_HasTypeDefinition : Addr) (hd : own_Dist a_References a_HierarchicalReferences a_HasChild a_Organizes a_Aggregates a_HasSubtype a_HasProperty a_HasComponent a_NonHierarchicalReferences a_HasTypeDefinition) (b : Int32) (hb : own_Ten b) : own_b (a_Aggregates = own_pick a_References a_HierarchicalReferences a_HasChild a_Organizes a_Aggregates a_HasSubtype a_HasProperty a_HasComponent a_NonHierarchicalReferences a_HasTypeDefinition b ∨ a_HasChild = own_pick a_References a_HierarchicalReferences a_HasChild a_Organizes a_Aggregates a_HasSubtype a_HasProperty a_HasComponent a_NonHierarchicalReferences a_HasTypeDefinition b ∨ a_HierarchicalReferences = own_pick a_References a_HierarchicalReferences a_HasChild a_Organizes a_Aggregates a_HasSubtype a_HasProperty a_HasComponent a_NonHierarchicalReferences a_HasTypeDefinition b ∨ a_References = own_pick a_References a_HierarchicalReferences a_HasChild a_Organizes a_Aggregates a_HasSubtype a_HasProperty a_HasComponent a_NonHierarchicalReferences a_HasTypeDefinition b) = own_b (¬ ((((23 : Int32) >>> (b &&& 31)) &&& (1 : Int32)) = (0 : Int32))) := by
  obtain ⟨n_0_1, n_0_2, n_0_3, n_0_4, n_0_5, n_0_6, n_0_7, n_0_8, n_0_9, n_1_2, n_1_3, n_1_4, n_1_5, n_1_6, n_1_7, n_1_8, n_1_9, n_2_3, n_2_4, n_2_5, n_2_6, n_2_7, n_2_8, n_2_9, n_3_4, n_3_5, n_3_6, n_3_7, n_3_8, n_3_9, n_4_5, n_4_6, n_4_7, n_4_8, n_4_9, n_5_6, n_5_7, n_5_8, n_5_9, n_6_7, n_6_8, n_6_9, n_7_8, n_7_9, n_8_9⟩ := hd
  rcases hb with rfl | rfl | rfl | rfl | rfl | rfl | rfl | rfl | rfl | rfl
  · exact (own_bt (show (a_Aggregates = a_References ∨ a_HasChild = a_References ∨ a_HierarchicalReferences = a_References ∨ a_References = a_References) from Or.inr (Or.inr (Or.inr (rfl))))).trans (own_bt (by decide)).symm
  · exact (own_bt (show (a_Aggregates = a_HierarchicalReferences ∨ a_HasChild = a_HierarchicalReferences ∨ a_HierarchicalReferences = a_HierarchicalReferences ∨ a_References = a_HierarchicalReferences) from Or.inr (Or.inr (Or.inl rfl)))).trans (own_bt (by decide)).symm
  · exact (own_bt (show (a_Aggregates = a_HasChild ∨ a_HasChild = a_HasChild ∨ a_HierarchicalReferences = a_HasChild ∨ a_References = a_HasChild) from Or.inr (Or.inl rfl))).trans (own_bt (by decide)).symm
  · exact (own_b0 (show ¬ (a_Aggregates = a_Organizes ∨ a_HasChild = a_Organizes ∨ a_HierarchicalReferences = a_Organizes ∨ a_References = a_Organizes) from fun q => q.elim (fun q => n_3_4 q.symm) (fun q => q.elim n_2_3 (fun q => q.elim n_1_3 (fun q => n_0_3 q))))).trans (own_b0 (by decide)).symm
  · exact (own_bt (show (a_Aggregates = a_Aggregates ∨ a_HasChild = a_Aggregates ∨ a_HierarchicalReferences = a_Aggregates ∨ a_References = a_Aggregates) from Or.inl rfl)).trans (own_bt (by decide)).symm
  · exact (own_b0 (show ¬ (a_Aggregates = a_HasSubtype ∨ a_HasChild = a_HasSubtype ∨ a_HierarchicalReferences = a_HasSubtype ∨ a_References = a_HasSubtype) from fun q => q.elim n_4_5 (fun q => q.elim n_2_5 (fun q => q.elim n_1_5 (fun q => n_0_5 q))))).trans (own_b0 (by decide)).symm
  · exact (own_b0 (show ¬ (a_Aggregates = a_HasProperty ∨ a_HasChild = a_HasProperty ∨ a_HierarchicalReferences = a_HasProperty ∨ a_References = a_HasProperty) from fun q => q.elim n_4_6 (fun q => q.elim n_2_6 (fun q => q.elim n_1_6 (fun q => n_0_6 q))))).trans (own_b0 (by decide)).symm
  · exact (own_b0 (show ¬ (a_Aggregates = a_HasComponent ∨ a_HasChild = a_HasComponent ∨ a_HierarchicalReferences = a_HasComponent ∨ a_References = a_HasComponent) from fun q => q.elim n_4_7 (fun q => q.elim n_2_7 (fun q => q.elim n_1_7 (fun q => n_0_7 q))))).trans (own_b0 (by decide)).symm
  · exact (own_b0 (show ¬ (a_Aggregates = a_NonHierarchicalReferences ∨ a_HasChild = a_NonHierarchicalReferences ∨ a_HierarchicalReferences = a_NonHierarchicalReferences ∨ a_References = a_NonHierarchicalReferences) from fun q => q.elim n_4_8 (fun q => q.elim n_2_8 (fun q => q.elim n_1_8 (fun q => n_0_8 q))))).trans (own_b0 (by decide)).symm
  · exact (own_b0 (show ¬ (a_Aggregates = a_HasTypeDefinition ∨ a_HasChild = a_HasTypeDefinition ∨ a_HierarchicalReferences = a_HasTypeDefinition ∨ a_References = a_HasTypeDefinition) from fun q => q.elim n_4_9 (fun q => q.elim n_2_9 (fun q => q.elim n_1_9 (fun q => n_0_9 q))))).trans (own_b0 (by decide)).symm
theorem own_sub_5 (a_References a_HierarchicalReferences a_HasChild a_Organizes a_Aggregates a_HasSubtype a_HasProperty a_HasComponent a_NonHierarchicalReferences a_HasTypeDefinition : Addr) (hd : own_Dist a_References a_HierarchicalReferences a_HasChild a_Organizes a_Aggregates a_HasSubtype a_HasProperty a_HasComponent a_NonHierarchicalReferences a_HasTypeDefinition) (b : Int32) (hb : own_Ten b) : own_b (a_HasSubtype = own_pick a_References a_HierarchicalReferences a_HasChild a_Organizes a_Aggregates a_HasSubtype a_HasProperty a_HasComponent a_NonHierarchicalReferences a_HasTypeDefinition b ∨ a_HasChild = own_pick a_References a_HierarchicalReferences a_HasChild a_Organizes a_Aggregates a_HasSubtype a_HasProperty a_HasComponent a_NonHierarchicalReferences a_HasTypeDefinition b ∨ a_HierarchicalReferences = own_pick a_References a_HierarchicalReferences a_HasChild a_Organizes a_Aggregates a_HasSubtype a_HasProperty a_HasComponent a_NonHierarchicalReferences a_HasTypeDefinition b ∨ a_References = own_pick a_References a_HierarchicalReferences a_HasChild a_Organizes a_Aggregates a_HasSubtype a_HasProperty a_HasComponent a_NonHierarchicalReferences a_HasTypeDefinition b) = own_b (¬ ((((39 : Int32) >>> (b &&& 31)) &&& (1 : Int32)) = (0 : Int32))) := by
  obtain ⟨n_0_1, n_0_2, n_0_3, n_0_4, n_0_5, n_0_6, n_0_7, n_0_8, n_0_9, n_1_2, n_1_3, n_1_4, n_1_5, n_1_6, n_1_7, n_1_8, n_1_9, n_2_3, n_2_4, n_2_5, n_2_6, n_2_7, n_2_8, n_2_9, n_3_4, n_3_5, n_3_6, n_3_7, n_3_8, n_3_9, n_4_5, n_4_6, n_4_7, n_4_8, n_4_9, n_5_6, n_5_7, n_5_8, n_5_9, n_6_7, n_6_8, n_6_9, n_7_8, n_7_9, n_8_9⟩ := hd
  rcases hb with rfl | rfl | rfl | rfl | rfl | rfl | rfl | rfl | rfl | rfl
  · exact (own_bt (show (a_HasSubtype = a_References ∨ a_HasChild = a_References ∨ a_HierarchicalReferences = a_References ∨ a_References = a_References) from Or.inr (Or.inr (Or.inr (rfl))))).trans (own_bt (by decide)).symm
  · exact (own_bt (show (a_HasSubtype = a_HierarchicalReferences ∨ a_HasChild = a_HierarchicalReferences ∨ a_HierarchicalReferences = a_HierarchicalReferences ∨ a_References = a_HierarchicalReferences) from Or.inr (Or.inr (Or.inl rfl)))).trans (own_bt (by decide)).symm
  · exact (own_bt (show (a_HasSubtype = a_HasChild ∨ a_HasChild = a_HasChild ∨ a_HierarchicalReferences = a_HasChild ∨ a_References = a_HasChild) from Or.inr (Or.inl rfl))).trans (own_bt (by decide)).symm
  · exact (own_b0 (show ¬ (a_HasSubtype = a_Organizes ∨ a_HasChild = a_Organizes ∨ a_HierarchicalReferences = a_Organizes ∨ a_References = a_Organizes) from fun q => q.elim (fun q => n_3_5 q.symm) (fun q => q.elim n_2_3 (fun q => q.elim n_1_3 (fun q => n_0_3 q))))).trans (own_b0 (by decide)).symm
  · exact (own_b0 (show ¬ (a_HasSubtype = a_Aggregates ∨ a_HasChild = a_Aggregates ∨ a_HierarchicalReferences = a_Aggregates ∨ a_References = a_Aggregates) from fun q => q.elim (fun q => n_4_5 q.symm) (fun q => q.elim n_2_4 (fun q => q.elim n_1_4 (fun q => n_0_4 q))))).trans (own_b0 (by decide)).symm
  · exact (own_bt (show (a_HasSubtype = a_HasSubtype ∨ a_HasChild = a_HasSubtype ∨ a_HierarchicalReferences = a_HasSubtype ∨ a_References = a_HasSubtype) from Or.inl rfl)).trans (own_bt (by decide)).symm
  · exact (own_b0 (show ¬ (a_HasSubtype = a_HasProperty ∨ a_HasChild = a_HasProperty ∨ a_HierarchicalReferences = a_HasProperty ∨ a_References = a_HasProperty) from fun q => q.elim n_5_6 (fun q => q.elim n_2_6 (fun q => q.elim n_1_6 (fun q => n_0_6 q))))).trans (own_b0 (by decide)).symm
  · exact (own_b0 (show ¬ (a_HasSubtype = a_HasComponent ∨ a_HasChild = a_HasComponent ∨ a_HierarchicalReferences = a_HasComponent ∨ a_References = a_HasComponent) from fun q => q.elim n_5_7 (fun q => q.elim n_2_7 (fun q => q.elim n_1_7 (fun q => n_0_7 q))))).trans (own_b0 (by decide)).symm
  · exact (own_b0 (show ¬ (a_HasSubtype = a_NonHierarchicalReferences ∨ a_HasChild = a_NonHierarchicalReferences ∨ a_HierarchicalReferences = a_NonHierarchicalReferences ∨ a_References = a_NonHierarchicalReferences) from fun q => q.elim n_5_8 (fun q => q.elim n_2_8 (fun q => q.elim n_1_8 (fun q => n_0_8 q))))).trans (own_b0 (by decide)).symm
  · exact (own_b0 (show ¬ (a_HasSubtype = a_HasTypeDefinition ∨ a_HasChild = a_HasTypeDefinition ∨ a_HierarchicalReferences = a_HasTypeDefinition ∨ a_References = a_HasTypeDefinition) from fun q => q.elim n_5_9 (fun q => q.elim n_2_9 (fun q => q.elim n_1_9 (fun q => n_0_9 q))))).trans (own_b0 (by decide)).symm
theorem own_sub_6 (a_References a_HierarchicalReferences a_HasChild a_Organizes a_Aggregates a_HasSubtype a_HasProperty a_HasComponent a_NonHierarchicalReferences a_HasTypeDefinition : Addr) (hd : own_Dist a_References a_HierarchicalReferences a_HasChild a_Organizes a_Aggregates a_HasSubtype a_HasProperty a_HasComponent a_NonHierarchicalReferences a_HasTypeDefinition) (b : Int32) (hb : own_Ten b) : own_b (a_HasProperty = own_pick a_References a_HierarchicalReferences a_HasChild a_Organizes a_Aggregates a_HasSubtype a_HasProperty a_HasComponent a_NonHierarchicalReferences a_HasTypeDefinition b ∨ a_Aggregates = own_pick a_References a_HierarchicalReferences a_HasChild a_Organizes a_Aggregates a_HasSubtype a_HasProperty a_HasComponent a_NonHierarchicalReferences a_HasTypeDefinition b ∨ a_HasChild = own_pick a_References a_HierarchicalReferences a_HasChild a_Organizes a_Aggregates a_HasSubtype a_HasProperty a_HasComponent a_NonHierarchicalReferences a_HasTypeDefinition b ∨ a_HierarchicalReferences = own_pick a_References a_HierarchicalReferences a_HasChild a_Organizes a_Aggregates a_HasSubtype a_HasProperty a_HasComponent a_NonHierarchicalReferences a_HasTypeDefinition b ∨ a_References = own_pick a_References a_HierarchicalReferences a_HasChild a_Organizes a_Aggregates a_HasSubtype a_HasProperty a_HasComponent a_NonHierarchicalReferences a_HasTypeDefinition b) = own_b (¬ ((((87 : Int32) >>> (b &&& 31)) &&& (1 : Int32)) = (0 : Int32))) := by
  obtain ⟨n_0_1, n_0_2, n_0_3, n_0_4, n_0_5, n_0_6, n_0_7, n_0_8, n_0_9, n_1_2, n_1_3, n_1_4, n_1_5, n_1_6, n_1_7, n_1_8, n_1_9, n_2_3, n_2_4, n_2_5, n_2_6, n_2_7, n_2_8, n_2_9, n_3_4, n_3_5, n_3_6, n_3_7, n_3_8, n_3_9, n_4_5, n_4_6, n_4_7, n_4_8, n_4_9, n_5_6, n_5_7, n_5_8, n_5_9, n_6_7, n_6_8, n_6_9, n_7_8, n_7_9, n_8_9⟩ := hd
  rcases hb with rfl | rfl | rfl | rfl | rfl | rfl | rfl | rfl | rfl | rfl
  · exact (own_bt (show (a_HasProperty = a_References ∨ a_Aggregates = a_References ∨ a_HasChild = a_References ∨ a_HierarchicalReferences = a_References ∨ a_References = a_References) from Or.inr (Or.inr (Or.inr (Or.inr (rfl)))))).trans (own_bt (by decide)).symm
  · exact (own_bt (show (a_HasProperty = a_HierarchicalReferences ∨ a_Aggregates = a_HierarchicalReferences ∨ a_HasChild = a_HierarchicalReferences ∨ a_HierarchicalReferences = a_HierarchicalReferences ∨ a_References = a_HierarchicalReferences) from Or.inr (Or.inr (Or.inr (Or.inl rfl))))).trans (own_bt (by decide)).symm
  · exact (own_bt (show (a_HasProperty = a_HasChild ∨ a_Aggregates = a_HasChild ∨ a_HasChild = a_HasChild ∨ a_HierarchicalReferences = a_HasChild ∨ a_References = a_HasChild) from Or.inr (Or.inr (Or.inl rfl)))).trans (own_bt (by decide)).symm
  · exact (own_b0 (show ¬ (a_HasProperty = a_Organizes ∨ a_Aggregates = a_Organizes ∨ a_HasChild = a_Organizes ∨ a_HierarchicalReferences = a_Organizes ∨ a_References = a_Organizes) from fun q => q.elim (fun q => n_3_6 q.symm) (fun q => q.elim (fun q => n_3_4 q.symm) (fun q => q.elim n_2_3 (fun q => q.elim n_1_3 (fun q => n_0_3 q)))))).trans (own_b0 (by decide)).symm
  · exact (own_bt (show (a_HasProperty = a_Aggregates ∨ a_Aggregates = a_Aggregates ∨ a_HasChild = a_Aggregates ∨ a_HierarchicalReferences = a_Aggregates ∨ a_References = a_Aggregates) from Or.inr (Or.inl rfl))).trans (own_bt (by decide)).symm
  · exact (own_b0 (show ¬ (a_HasProperty = a_HasSubtype ∨ a_Aggregates = a_HasSubtype ∨ a_HasChild = a_HasSubtype ∨ a_HierarchicalReferences = a_HasSubtype ∨ a_References = a_HasSubtype) from fun q => q.elim (fun q => n_5_6 q.symm) (fun q => q.elim n_4_5 (fun q => q.elim n_2_5 (fun q => q.elim n_1_5 (fun q => n_0_5 q)))))).trans (own_b0 (by decide)).symm
  · exact (own_bt (show (a_HasProperty = a_HasProperty ∨ a_Aggregates = a_HasProperty ∨ a_HasChild = a_HasProperty ∨ a_HierarchicalReferences = a_HasProperty ∨ a_References = a_HasProperty) from Or.inl rfl)).trans (own_bt (by decide)).symm
  · exact (own_b0 (show ¬ (a_HasProperty = a_HasComponent ∨ a_Aggregates = a_HasComponent ∨ a_HasChild = a_HasComponent ∨ a_HierarchicalReferences = a_HasComponent ∨ a_References = a_HasComponent) from fun q => q.elim n_6_7 (fun q => q.elim n_4_7 (fun q => q.elim n_2_7 (fun q => q.elim n_1_7 (fun q => n_0_7 q)))))).trans (own_b0 (by decide)).symm
  · exact (own_b0 (show ¬ (a_HasProperty = a_NonHierarchicalReferences ∨ a_Aggregates = a_NonHierarchicalReferences ∨ a_HasChild = a_NonHierarchicalReferences ∨ a_HierarchicalReferences = a_NonHierarchicalReferences ∨ a_References = a_NonHierarchicalReferences) from fun q => q.elim n_6_8 (fun q => q.elim n_4_8 (fun q => q.elim n_2_8 (fun q => q.elim n_1_8 (fun q => n_0_8 q)))))).trans (own_b0 (by decide)).symm
  · exact (own_b0 (show ¬ (a_HasProperty = a_HasTypeDefinition ∨ a_Aggregates = a_HasTypeDefinition ∨ a_HasChild = a_HasTypeDefinition ∨ a_HierarchicalReferences = a_HasTypeDefinition ∨ a_References = a_HasTypeDefinition) from fun q => q.elim n_6_9 (fun q => q.elim n_4_9 (fun q => q.elim n_2_9 (fun q => q.elim n_1_9 (fun q => n_0_9 q)))))).trans (own_b0 (by decide)).symm
theorem own_sub_7 (a_References a_HierarchicalReferences a_HasChild a_Organizes a_Aggregates a_HasSubtype a_HasProperty a_HasComponent a_NonHierarchicalReferences a_HasTypeDefinition : Addr) (hd : own_Dist a_References a_HierarchicalReferences a_HasChild a_Organizes a_Aggregates a_HasSubtype a_HasProperty a_HasComponent a_NonHierarchicalReferences a_HasTypeDefinition) (b : Int32) (hb : own_Ten b) : own_b (a_HasComponent = own_pick a_References a_HierarchicalReferences a_HasChild a_Organizes a_Aggregates a_HasSubtype a_HasProperty a_HasComponent a_NonHierarchicalReferences a_HasTypeDefinition b ∨ a_Aggregates = own_pick a_References a_HierarchicalReferences a_HasChild a_Organizes a_Aggregates a_HasSubtype a_HasProperty a_HasComponent a_NonHierarchicalReferences a_HasTypeDefinition b ∨ a_HasChild = own_pick a_References a_HierarchicalReferences a_HasChild a_Organizes a_Aggregates a_HasSubtype a_HasProperty a_HasComponent a_NonHierarchicalReferences a_HasTypeDefinition b ∨ a_HierarchicalReferences = own_pick a_References a_HierarchicalReferences a_HasChild a_Organizes a_Aggregates a_HasSubtype a_HasProperty a_HasComponent a_NonHierarchicalReferences a_HasTypeDefinition b ∨ a_References = own_pick a_References a_HierarchicalReferences a_HasChild a_Organizes a_Aggregates a_HasSubtype a_HasProperty a_HasComponent a_NonHierarchicalReferences a_HasTypeDefinition b) = own_b (¬ ((((151 : Int32) >>> (b &&& 31)) &&& (1 : Int32)) = (0 : Int32))) := by
  obtain ⟨n_0_1, n_0_2, n_0_3, n_0_4, n_0_5, n_0_6, n_0_7, n_0_8, n_0_9, n_1_2, n_1_3, n_1_4, n_1_5, n_1_6, n_1_7, n_1_8, n_1_9, n_2_3, n_2_4, n_2_5, n_2_6, n_2_7, n_2_8, n_2_9, n_3_4, n_3_5, n_3_6, n_3_7, n_3_8, n_3_9, n_4_5, n_4_6, n_4_7, n_4_8, n_4_9, n_5_6, n_5_7, n_5_8, n_5_9, n_6_7, n_6_8, n_6_9, n_7_8, n_7_9, n_8_9⟩ := hd
  rcases hb with rfl | rfl | rfl | rfl | rfl | rfl | rfl | rfl | rfl | rfl
  · exact (own_bt (show (a_HasComponent = a_References ∨ a_Aggregates = a_References ∨ a_HasChild = a_References ∨ a_HierarchicalReferences = a_References ∨ a_References = a_References) from Or.inr (Or.inr (Or.inr (Or.inr (rfl)))))).trans (own_bt (by decide)).symm
  · exact (own_bt (show (a_HasComponent = a_HierarchicalReferences ∨ a_Aggregates = a_HierarchicalReferences ∨ a_HasChild = a_HierarchicalReferences ∨ a_HierarchicalReferences = a_HierarchicalReferences ∨ a_References = a_HierarchicalReferences) from Or.inr (Or.inr (Or.inr (Or.inl rfl))))).trans (own_bt (by decide)).symm
  · exact (own_bt (show (a_HasComponent = a_HasChild ∨ a_Aggregates = a_HasChild ∨ a_HasChild = a_HasChild ∨ a_HierarchicalReferences = a_HasChild ∨ a_References = a_HasChild) from Or.inr (Or.inr (Or.inl rfl)))).trans (own_bt (by decide)).symm
  · exact (own_b0 (show ¬ (a_HasComponent = a_Organizes ∨ a_Aggregates = a_Organizes ∨ a_HasChild = a_Organizes ∨ a_HierarchicalReferences = a_Organizes ∨ a_References = a_Organizes) from fun q => q.elim (fun q => n_3_7 q.symm) (fun q => q.elim (fun q => n_3_4 q.symm) (fun q => q.elim n_2_3 (fun q => q.elim n_1_3 (fun q => n_0_3 q)))))).trans (own_b0 (by decide)).symm
  · exact (own_bt (show (a_HasComponent = a_Aggregates ∨ a_Aggregates = a_Aggregates ∨ a_HasChild = a_Aggregates ∨ a_HierarchicalReferences = a_Aggregates ∨ a_References = a_Aggregates) from Or.inr (Or.inl rfl))).trans (own_bt (by decide)).symm
  · exact (own_b0 (show ¬ (a_HasComponent = a_HasSubtype ∨ a_Aggregates = a_HasSubtype ∨ a_HasChild = a_HasSubtype ∨ a_HierarchicalReferences = a_HasSubtype ∨ a_References = a_HasSubtype) from fun q => q.elim (fun q => n_5_7 q.symm) (fun q => q.elim n_4_5 (fun q => q.elim n_2_5 (fun q => q.elim n_1_5 (fun q => n_0_5 q)))))).trans (own_b0 (by decide)).symm
  · exact (own_b0 (show ¬ (a_HasComponent = a_HasProperty ∨ a_Aggregates = a_HasProperty ∨ a_HasChild = a_HasProperty ∨ a_HierarchicalReferences = a_HasProperty ∨ a_References = a_HasProperty) from fun q => q.elim (fun q => n_6_7 q.symm) (fun q => q.elim n_4_6 (fun q => q.elim n_2_6 (fun q => q.elim n_1_6 (fun q => n_0_6 q)))))).trans (own_b0 (by decide)).symm
  · exact (own_bt (show (a_HasComponent = a_HasComponent ∨ a_Aggregates = a_HasComponent ∨ a_HasChild = a_HasComponent ∨ a_HierarchicalReferences = a_HasComponent ∨ a_References = a_HasComponent) from Or.inl rfl)).trans (own_bt (by decide)).symm
  · exact (own_b0 (show ¬ (a_HasComponent = a_NonHierarchicalReferences ∨ a_Aggregates = a_NonHierarchicalReferences ∨ a_HasChild = a_NonHierarchicalReferences ∨ a_HierarchicalReferences = a_NonHierarchicalReferences ∨ a_References = a_NonHierarchicalReferences) from fun q => q.elim n_7_8 (fun q => q.elim n_4_8 (fun q => q.elim n_2_8 (fun q => q.elim n_1_8 (fun q => n_0_8 q)))))).trans (own_b0 (by decide)).symm
  · exact (own_b0 (show ¬ (a_HasComponent = a_HasTypeDefinition ∨ a_Aggregates = a_HasTypeDefinition ∨ a_HasChild = a_HasTypeDefinition ∨ a_HierarchicalReferences = a_HasTypeDefinition ∨ a_References = a_HasTypeDefinition) from fun q => q.elim n_7_9 (fun q => q.elim n_4_9 (fun q => q.elim n_2_9 (fun q => q.elim n_1_9 (fun q => n_0_9 q)))))).trans (own_b0 (by decide)).symm
theorem own_sub_8 (a_References a_HierarchicalReferences a_HasChild a_Organizes a_Aggregates a_HasSubtype a_HasProperty a_HasComponent a_NonHierarchicalReferences a_HasTypeDefinition : Addr) (hd : own_Dist a_References a_HierarchicalReferences a_HasChild a_Organizes a_Aggregates a_HasSubtype a_HasProperty a_HasComponent a_NonHierarchicalReferences a_HasTypeDefinition) (b : Int32) (hb : own_Ten b) : own_b (a_NonHierarchicalReferences = own_pick a_References a_HierarchicalReferences a_HasChild a_Organizes a_Aggregates a_HasSubtype a_HasProperty a_HasComponent a_NonHierarchicalReferences a_HasTypeDefinition b ∨ a_References = own_pick a_References a_HierarchicalReferences a_HasChild a_Organizes a_Aggregates a_HasSubtype a_HasProperty a_HasComponent a_NonHierarchicalReferences a_HasTypeDefinition b) = own_b (¬ ((((257 : Int32) >>> (b &&& 31)) &&& (1 : Int32)) = (0 : Int32))) := by
  obtain ⟨n_0_1, n_0_2, n_0_3, n_0_4, n_0_5, n_0_6, n_0_7, n_0_8, n_0_9, n_1_2, n_1_3, n_1_4, n_1_5, n_1_6, n_1_7, n_1_8, n_1_9, n_2_3, n_2_4, n_2_5, n_2_6, n_2_7, n_2_8, n_2_9, n_3_4, n_3_5, n_3_6, n_3_7, n_3_8, n_3_9, n_4_5, n_4_6, n_4_7, n_4_8, n_4_9, n_5_6, n_5_7, n_5_8, n_5_9, n_6_7, n_6_8, n_6_9, n_7_8, n_7_9, n_8_9⟩ := hd
  rcases hb with rfl | rfl | rfl | rfl | rfl | rfl | rfl | rfl | rfl | rfl
  · exact (own_bt (show (a_NonHierarchicalReferences = a_References ∨ a_References = a_References) from Or.inr (rfl))).trans (own_bt (by decide)).symm
  · exact (own_b0 (show ¬ (a_NonHierarchicalReferences = a_HierarchicalReferences ∨ a_References = a_HierarchicalReferences) from fun q => q.elim (fun q => n_1_8 q.symm) (fun q => n_0_1 q))).trans (own_b0 (by decide)).symm
  · exact (own_b0 (show ¬ (a_NonHierarchicalReferences = a_HasChild ∨ a_References = a_HasChild) from fun q => q.elim (fun q => n_2_8 q.symm) (fun q => n_0_2 q))).trans (own_b0 (by decide)).symm
  · exact (own_b0 (show ¬ (a_NonHierarchicalReferences = a_Organizes ∨ a_References = a_Organizes) from fun q => q.elim (fun q => n_3_8 q.symm) (fun q => n_0_3 q))).trans (own_b0 (by decide)).symm
  · exact (own_b0 (show ¬ (a_NonHierarchicalReferences = a_Aggregates ∨ a_References = a_Aggregates) from fun q => q.elim (fun q => n_4_8 q.symm) (fun q => n_0_4 q))).trans (own_b0 (by decide)).symm
  · exact (own_b0 (show ¬ (a_NonHierarchicalReferences = a_HasSubtype ∨ a_References = a_HasSubtype) from fun q => q.elim (fun q => n_5_8 q.symm) (fun q => n_0_5 q))).trans (own_b0 (by decide)).symm
  · exact (own_b0 (show ¬ (a_NonHierarchicalReferences = a_HasProperty ∨ a_References = a_HasProperty) from fun q => q.elim (fun q => n_6_8 q.symm) (fun q => n_0_6 q))).trans (own_b0 (by decide)).symm
  · exact (own_b0 (show ¬ (a_NonHierarchicalReferences = a_HasComponent ∨ a_References = a_HasComponent) from fun q => q.elim (fun q => n_7_8 q.symm) (fun q => n_0_7 q))).trans (own_b0 (by decide)).symm
  · exact (own_bt (show (a_NonHierarchicalReferences = a_NonHierarchicalReferences ∨ a_References = a_NonHierarchicalReferences) from Or.inl rfl)).trans (own_bt (by decide)).symm
  · exact (own_b0 (show ¬ (a_NonHierarchicalReferences = a_HasTypeDefinition ∨ a_References = a_HasTypeDefinition) from fun q => q.elim n_8_9 (fun q => n_0_9 q))).trans (own_b0 (by decide)).symm
theorem own_sub_9 (a_References a_HierarchicalReferences a_HasChild a_Organizes a_Aggregates a_HasSubtype a_HasProperty a_HasComponent a_NonHierarchicalReferences a_HasTypeDefinition : Addr) (hd : own_Dist a_References a_HierarchicalReferences a_HasChild a_Organizes a_Aggregates a_HasSubtype a_HasProperty a_HasComponent a_NonHierarchicalReferences a_HasTypeDefinition) (b : Int32) (hb : own_Ten b) : own_b (a_HasTypeDefinition = own_pick a_References a_HierarchicalReferences a_HasChild a_Organizes a_Aggregates a_HasSubtype a_HasProperty a_HasComponent a_NonHierarchicalReferences a_HasTypeDefinition b ∨ a_NonHierarchicalReferences = own_pick a_References a_HierarchicalReferences a_HasChild a_Organizes a_Aggregates a_HasSubtype a_HasProperty a_HasComponent a_NonHierarchicalReferences a_HasTypeDefinition b ∨ a_References = own_pick a_References a_HierarchicalReferences a_HasChild a_Organizes a_Aggregates a_HasSubtype a_HasProperty a_HasComponent a_NonHierarchicalReferences a_HasTypeDefinition b) = own_b (¬ ((((769 : Int32) >>> (b &&& 31)) &&& (1 : Int32)) = (0 : Int32))) := by
  obtain ⟨n_0_1, n_0_2, n_0_3, n_0_4, n_0_5, n_0_6, n_0_7, n_0_8, n_0_9, n_1_2, n_1_3, n_1_4, n_1_5, n_1_6, n_1_7, n_1_8, n_1_9, n_2_3, n_2_4, n_2_5, n_2_6, n_2_7, n_2_8, n_2_9, n_3_4, n_3_5, n_3_6, n_3_7, n_3_8, n_3_9, n_4_5, n_4_6, n_4_7, n_4_8, n_4_9, n_5_6, n_5_7, n_5_8, n_5_9, n_6_7, n_6_8, n_6_9, n_7_8, n_7_9, n_8_9⟩ := hd
  rcases hb with rfl | rfl | rfl | rfl | rfl | rfl | rfl | rfl | rfl | rfl
  · exact (own_bt (show (a_HasTypeDefinition = a_References ∨ a_NonHierarchicalReferences = a_References ∨ a_References = a_References) from Or.inr (Or.inr (rfl)))).trans (own_bt (by decide)).symm
  · exact (own_b0 (show ¬ (a_HasTypeDefinition = a_HierarchicalReferences ∨ a_NonHierarchicalReferences = a_HierarchicalReferences ∨ a_References = a_HierarchicalReferences) from fun q => q.elim (fun q => n_1_9 q.symm) (fun q => q.elim (fun q => n_1_8 q.symm) (fun q => n_0_1 q)))).trans (own_b0 (by decide)).symm
  · exact (own_b0 (show ¬ (a_HasTypeDefinition = a_HasChild ∨ a_NonHierarchicalReferences = a_HasChild ∨ a_References = a_HasChild) from fun q => q.elim (fun q => n_2_9 q.symm) (fun q => q.elim (fun q => n_2_8 q.symm) (fun q => n_0_2 q)))).trans (own_b0 (by decide)).symm
  · exact (own_b0 (show ¬ (a_HasTypeDefinition = a_Organizes ∨ a_NonHierarchicalReferences = a_Organizes ∨ a_References = a_Organizes) from fun q => q.elim (fun q => n_3_9 q.symm) (fun q => q.elim (fun q => n_3_8 q.symm) (fun q => n_0_3 q)))).trans (own_b0 (by decide)).symm
  · exact (own_b0 (show ¬ (a_HasTypeDefinition = a_Aggregates ∨ a_NonHierarchicalReferences = a_Aggregates ∨ a_References = a_Aggregates) from fun q => q.elim (fun q => n_4_9 q.symm) (fun q => q.elim (fun q => n_4_8 q.symm) (fun q => n_0_4 q)))).trans (own_b0 (by decide)).symm
  · exact (own_b0 (show ¬ (a_HasTypeDefinition = a_HasSubtype ∨ a_NonHierarchicalReferences = a_HasSubtype ∨ a_References = a_HasSubtype) from fun q => q.elim (fun q => n_5_9 q.symm) (fun q => q.elim (fun q => n_5_8 q.symm) (fun q => n_0_5 q)))).trans (own_b0 (by decide)).symm
  · exact (own_b0 (show ¬ (a_HasTypeDefinition = a_HasProperty ∨ a_NonHierarchicalReferences = a_HasProperty ∨ a_References = a_HasProperty) from fun q => q.elim (fun q => n_6_9 q.symm) (fun q => q.elim (fun q => n_6_8 q.symm) (fun q => n_0_6 q)))).trans (own_b0 (by decide)).symm
  · exact (own_b0 (show ¬ (a_HasTypeDefinition = a_HasComponent ∨ a_NonHierarchicalReferences = a_HasComponent ∨ a_References = a_HasComponent) from fun q => q.elim (fun q => n_7_9 q.symm) (fun q => q.elim (fun q => n_7_8 q.symm) (fun q => n_0_7 q)))).trans (own_b0 (by decide)).symm
  · exact (own_bt (show (a_HasTypeDefinition = a_NonHierarchicalReferences ∨ a_NonHierarchicalReferences = a_NonHierarchicalReferences ∨ a_References = a_NonHierarchicalReferences) from Or.inr (Or.inl rfl))).trans (own_bt (by decide)).symm
  · exact (own_bt (show (a_HasTypeDefinition = a_HasTypeDefinition ∨ a_NonHierarchicalReferences = a_HasTypeDefinition ∨ a_References = a_HasTypeDefinition) from Or.inl rfl)).trans (own_bt (by decide)).symm
def Qr (r : Value) (h0 : Heap) (n0 : Nat) (v : Option Value) (h : Heap) (L : List Loc) : Prop := v = some r ∧ Fr n0 L ∧ h = h0
set_option maxRecDepth 65536 in
set_option maxHeartbeats 40000000 in
theorem rm1 (l : Launch) (Z : State) (a0 : Array Value) (hw : ∀ d ∈ tables_1, d.before a0 Z = true) (ws : List Jvm.Cond) (p0 : Int32) (h0 : Heap) (n0 : Nat) (Z0 : n0 ≤ h0.size) :
    MetFree l (⟨"com/example/halyard/halyard/server/ReferenceTypeIsSubtypeOfPinLaw", "ancestors", "(I)I"⟩ : MethodName) (head1 (Jvm.Cond.code (⟨"com/example/halyard/halyard/server/ReferenceTypeIsSubtypeOfPinLaw", "ancestors", "(I)I"⟩ : MethodName) method_3_code 1 (some .int) :: ws) ({ frames := 0, cells := 0, slots := 0, locals := 0 } : Room)) (fun aa UU => aa = #[(.int p0)] ∧ Z.Warmed39 UU.vm ∧ UU.heap = h0) (fun _ _ _ _ _ => True) (fun _ UU oo U' => ∃ v L, oo = .returned v ∧ Qr (.int (own_anc p0)) h0 n0 v U'.heap L ∧ FrameEnd UU oo U' L ({ frames := 0, cells := 0, slots := 0, locals := 0 } : Room).cells ({ frames := 0, cells := 0, slots := 0, locals := 0 } : Room).slots) := by
  refine MetFree.of_bodySF (plainFor_of_name pn_0) hisR ?_
  intro p e s m args below meth c s₁ Bd hml0 hP hK
  obtain ⟨rfl, hZ, hh⟩ := hP
  have hx := Bd.exec
  have hby := Bd.bytes
  have hml : c.maxLocals = 1 := hml0
  have hown : s.vm.findClass "com/example/halyard/halyard/server/ReferenceTypeIsSubtypeOfPinLaw" = some m.cls := findClass_of_methodNamed Bd.named
  have hnm := (name_of_methodNamed Bd.named Bd.method).1
  have X0 : Stand p l e ({ frames := 0, cells := 0, slots := 0, locals := 0 } : Room) s m #[(.int p0)] below meth c s₁ [] 0 0 := Stand.of_body Bd
  have e0 : s₁.heap = h0 := by rw [← hh, Bd.state]; rfl
  have N0 := Fr.nil n0
  obtain ⟨A0, hA0⟩ : ∃ A, A = s₁.setTop (entryFrame m #[(.int p0)] 1) := ⟨_, rfl⟩
  have G0 : Go p e below A0 (s₁.setTop (mkF m 0 #[.val (.int p0)] [])) := fun tq kq => by rw [hA0]; exact castTop (ef_rm1 m p0) kq
  have G1 : Go p e below A0 (s₁.setTop (mkF m 1 #[.val (.int p0)] [(.int p0)])) := fun tq kq => G0 tq (by
    refine XS.iloadN X0.here hx rfl (hb hby d1_0) rfl ?_
    show Steps p.tables e below (s₁.setTop (mkF m 1 #[.val (.int p0)] [(.int p0)])) _
    exact kq)
  by_cases hc2 : p0 = (0 : Int32)
  · have G3 : Go p e below A0 (s₁.setTop (mkF m 5 #[.val (.int p0)] [(.int (1 : Int32))])) := fun tq kq => G1 tq (by
      refine XS.ifNo X0.here hx rfl (hb hby d1_1) rfl ((if0 _ _).trans (teq hc2).2) ?_
      show Steps p.tables e below (s₁.setTop (mkF m 4 #[.val (.int p0)] [])) _
      refine XS.iconst X0.here hx rfl (hb hby d1_4) ?_
      show Steps p.tables e below (s₁.setTop (mkF m 5 #[.val (.int p0)] [(.int (1 : Int32))])) _
      exact kq)
    obtain ⟨fs, hr, hrun, hended, hW, hsame⟩ := X0.leave (v := some (.int (1 : Int32))) (fun h => by rw [Bd.returns] at h; cases h)
    refine ⟨_, _, (by rw [← hA0]; exact G3 _ (retOut X0 hx (t := .int) Bd.returns rfl (Or.inl ⟨rfl, Or.inl rfl, _, rfl⟩) (hb hby d1_5) hr)), hrun, hended, _, _, rfl, ?_, ⟨_, rfl⟩, hW, hsame.mono (by decide) (by decide)⟩
    exact ⟨(by simp [own_anc, hc2]), N0, e0⟩
  · have G4 : Go p e below A0 (s₁.setTop (mkF m 8 #[.val (.int p0)] [(.int (1 : Int32)), (.int p0)])) := fun tq kq => G1 tq (by
      refine XS.ifYes X0.here hx rfl (pc0 := 1) (pc' := 6) rfl (hb hby d1_1) rfl ((if0 _ _).trans (feq hc2).2) (by decide) (by decide) ?_
      show Steps p.tables e below (s₁.setTop (mkF m 6 #[.val (.int p0)] [])) _
      refine XS.iloadN X0.here hx rfl (hb hby d1_6) rfl ?_
      show Steps p.tables e below (s₁.setTop (mkF m 7 #[.val (.int p0)] [(.int p0)])) _
      refine XS.iconst X0.here hx rfl (hb hby d1_7) ?_
      show Steps p.tables e below (s₁.setTop (mkF m 8 #[.val (.int p0)] [(.int (1 : Int32)), (.int p0)])) _
      exact kq)
    by_cases hc5 : p0 = (1 : Int32)
    · have G6 : Go p e below A0 (s₁.setTop (mkF m 12 #[.val (.int p0)] [(.int (3 : Int32))])) := fun tq kq => G4 tq (by
        refine XS.icmpNo X0.here hx rfl (hb hby d1_8) rfl (teq hc5).2 ?_
        show Steps p.tables e below (s₁.setTop (mkF m 11 #[.val (.int p0)] [])) _
        refine XS.iconst X0.here hx rfl (hb hby d1_11) ?_
        show Steps p.tables e below (s₁.setTop (mkF m 12 #[.val (.int p0)] [(.int (3 : Int32))])) _
        exact kq)
      obtain ⟨fs, hr, hrun, hended, hW, hsame⟩ := X0.leave (v := some (.int (3 : Int32))) (fun h => by rw [Bd.returns] at h; cases h)
      refine ⟨_, _, (by rw [← hA0]; exact G6 _ (retOut X0 hx (t := .int) Bd.returns rfl (Or.inl ⟨rfl, Or.inl rfl, _, rfl⟩) (hb hby d1_12) hr)), hrun, hended, _, _, rfl, ?_, ⟨_, rfl⟩, hW, hsame.mono (by decide) (by decide)⟩
      exact ⟨(by simp [own_anc, hc2, hc5]), N0, e0⟩
    · have G7 : Go p e below A0 (s₁.setTop (mkF m 15 #[.val (.int p0)] [(.int (2 : Int32)), (.int p0)])) := fun tq kq => G4 tq (by
        refine XS.icmpYes X0.here hx rfl (pc0 := 8) (pc' := 13) rfl (hb hby d1_8) rfl (feq hc5).2 (by decide) (by decide) ?_
        show Steps p.tables e below (s₁.setTop (mkF m 13 #[.val (.int p0)] [])) _
        refine XS.iloadN X0.here hx rfl (hb hby d1_13) rfl ?_
        show Steps p.tables e below (s₁.setTop (mkF m 14 #[.val (.int p0)] [(.int p0)])) _
        refine XS.iconst X0.here hx rfl (hb hby d1_14) ?_
        show Steps p.tables e below (s₁.setTop (mkF m 15 #[.val (.int p0)] [(.int (2 : Int32)), (.int p0)])) _
        exact kq)
      by_cases hc8 : p0 = (2 : Int32)
      · have G9 : Go p e below A0 (s₁.setTop (mkF m 20 #[.val (.int p0)] [(.int (7 : Int32))])) := fun tq kq => G7 tq (by
          refine XS.icmpNo X0.here hx rfl (hb hby d1_15) rfl (teq hc8).2 ?_
          show Steps p.tables e below (s₁.setTop (mkF m 18 #[.val (.int p0)] [])) _
          refine XS.bipush X0.here hx rfl (hb hby d1_18) ?_
          show Steps p.tables e below (s₁.setTop (mkF m 20 #[.val (.int p0)] [(.int (7 : Int32))])) _
          exact kq)
        obtain ⟨fs, hr, hrun, hended, hW, hsame⟩ := X0.leave (v := some (.int (7 : Int32))) (fun h => by rw [Bd.returns] at h; cases h)
        refine ⟨_, _, (by rw [← hA0]; exact G9 _ (retOut X0 hx (t := .int) Bd.returns rfl (Or.inl ⟨rfl, Or.inl rfl, _, rfl⟩) (hb hby d1_20) hr)), hrun, hended, _, _, rfl, ?_, ⟨_, rfl⟩, hW, hsame.mono (by decide) (by decide)⟩
        exact ⟨(by simp [own_anc, hc2, hc5, hc8]), N0, e0⟩
      · have G10 : Go p e below A0 (s₁.setTop (mkF m 23 #[.val (.int p0)] [(.int (3 : Int32)), (.int p0)])) := fun tq kq => G7 tq (by
          refine XS.icmpYes X0.here hx rfl (pc0 := 15) (pc' := 21) rfl (hb hby d1_15) rfl (feq hc8).2 (by decide) (by decide) ?_
          show Steps p.tables e below (s₁.setTop (mkF m 21 #[.val (.int p0)] [])) _
          refine XS.iloadN X0.here hx rfl (hb hby d1_21) rfl ?_
          show Steps p.tables e below (s₁.setTop (mkF m 22 #[.val (.int p0)] [(.int p0)])) _
          refine XS.iconst X0.here hx rfl (hb hby d1_22) ?_
          show Steps p.tables e below (s₁.setTop (mkF m 23 #[.val (.int p0)] [(.int (3 : Int32)), (.int p0)])) _
          exact kq)
        by_cases hc11 : p0 = (3 : Int32)
        · have G12 : Go p e below A0 (s₁.setTop (mkF m 28 #[.val (.int p0)] [(.int (11 : Int32))])) := fun tq kq => G10 tq (by
            refine XS.icmpNo X0.here hx rfl (hb hby d1_23) rfl (teq hc11).2 ?_
            show Steps p.tables e below (s₁.setTop (mkF m 26 #[.val (.int p0)] [])) _
            refine XS.bipush X0.here hx rfl (hb hby d1_26) ?_
            show Steps p.tables e below (s₁.setTop (mkF m 28 #[.val (.int p0)] [(.int (11 : Int32))])) _
            exact kq)
          obtain ⟨fs, hr, hrun, hended, hW, hsame⟩ := X0.leave (v := some (.int (11 : Int32))) (fun h => by rw [Bd.returns] at h; cases h)
          refine ⟨_, _, (by rw [← hA0]; exact G12 _ (retOut X0 hx (t := .int) Bd.returns rfl (Or.inl ⟨rfl, Or.inl rfl, _, rfl⟩) (hb hby d1_28) hr)), hrun, hended, _, _, rfl, ?_, ⟨_, rfl⟩, hW, hsame.mono (by decide) (by decide)⟩
          exact ⟨(by simp [own_anc, hc2, hc5, hc8, hc11]), N0, e0⟩
        · have G13 : Go p e below A0 (s₁.setTop (mkF m 31 #[.val (.int p0)] [(.int (4 : Int32)), (.int p0)])) := fun tq kq => G10 tq (by
            refine XS.icmpYes X0.here hx rfl (pc0 := 23) (pc' := 29) rfl (hb hby d1_23) rfl (feq hc11).2 (by decide) (by decide) ?_
            show Steps p.tables e below (s₁.setTop (mkF m 29 #[.val (.int p0)] [])) _
            refine XS.iloadN X0.here hx rfl (hb hby d1_29) rfl ?_
            show Steps p.tables e below (s₁.setTop (mkF m 30 #[.val (.int p0)] [(.int p0)])) _
            refine XS.iconst X0.here hx rfl (hb hby d1_30) ?_
            show Steps p.tables e below (s₁.setTop (mkF m 31 #[.val (.int p0)] [(.int (4 : Int32)), (.int p0)])) _
            exact kq)
          by_cases hc14 : p0 = (4 : Int32)
          · have G15 : Go p e below A0 (s₁.setTop (mkF m 36 #[.val (.int p0)] [(.int (23 : Int32))])) := fun tq kq => G13 tq (by
              refine XS.icmpNo X0.here hx rfl (hb hby d1_31) rfl (teq hc14).2 ?_
              show Steps p.tables e below (s₁.setTop (mkF m 34 #[.val (.int p0)] [])) _
              refine XS.bipush X0.here hx rfl (hb hby d1_34) ?_
              show Steps p.tables e below (s₁.setTop (mkF m 36 #[.val (.int p0)] [(.int (23 : Int32))])) _
              exact kq)
            obtain ⟨fs, hr, hrun, hended, hW, hsame⟩ := X0.leave (v := some (.int (23 : Int32))) (fun h => by rw [Bd.returns] at h; cases h)
            refine ⟨_, _, (by rw [← hA0]; exact G15 _ (retOut X0 hx (t := .int) Bd.returns rfl (Or.inl ⟨rfl, Or.inl rfl, _, rfl⟩) (hb hby d1_36) hr)), hrun, hended, _, _, rfl, ?_, ⟨_, rfl⟩, hW, hsame.mono (by decide) (by decide)⟩
            exact ⟨(by simp [own_anc, hc2, hc5, hc8, hc11, hc14]), N0, e0⟩
          · have G16 : Go p e below A0 (s₁.setTop (mkF m 39 #[.val (.int p0)] [(.int (5 : Int32)), (.int p0)])) := fun tq kq => G13 tq (by
              refine XS.icmpYes X0.here hx rfl (pc0 := 31) (pc' := 37) rfl (hb hby d1_31) rfl (feq hc14).2 (by decide) (by decide) ?_
              show Steps p.tables e below (s₁.setTop (mkF m 37 #[.val (.int p0)] [])) _
              refine XS.iloadN X0.here hx rfl (hb hby d1_37) rfl ?_
              show Steps p.tables e below (s₁.setTop (mkF m 38 #[.val (.int p0)] [(.int p0)])) _
              refine XS.iconst X0.here hx rfl (hb hby d1_38) ?_
              show Steps p.tables e below (s₁.setTop (mkF m 39 #[.val (.int p0)] [(.int (5 : Int32)), (.int p0)])) _
              exact kq)
            by_cases hc17 : p0 = (5 : Int32)
            · have G18 : Go p e below A0 (s₁.setTop (mkF m 44 #[.val (.int p0)] [(.int (39 : Int32))])) := fun tq kq => G16 tq (by
                refine XS.icmpNo X0.here hx rfl (hb hby d1_39) rfl (teq hc17).2 ?_
                show Steps p.tables e below (s₁.setTop (mkF m 42 #[.val (.int p0)] [])) _
                refine XS.bipush X0.here hx rfl (hb hby d1_42) ?_
                show Steps p.tables e below (s₁.setTop (mkF m 44 #[.val (.int p0)] [(.int (39 : Int32))])) _
                exact kq)
              obtain ⟨fs, hr, hrun, hended, hW, hsame⟩ := X0.leave (v := some (.int (39 : Int32))) (fun h => by rw [Bd.returns] at h; cases h)
              refine ⟨_, _, (by rw [← hA0]; exact G18 _ (retOut X0 hx (t := .int) Bd.returns rfl (Or.inl ⟨rfl, Or.inl rfl, _, rfl⟩) (hb hby d1_44) hr)), hrun, hended, _, _, rfl, ?_, ⟨_, rfl⟩, hW, hsame.mono (by decide) (by decide)⟩
              exact ⟨(by simp [own_anc, hc2, hc5, hc8, hc11, hc14, hc17]), N0, e0⟩
            · have G19 : Go p e below A0 (s₁.setTop (mkF m 48 #[.val (.int p0)] [(.int (6 : Int32)), (.int p0)])) := fun tq kq => G16 tq (by
                refine XS.icmpYes X0.here hx rfl (pc0 := 39) (pc' := 45) rfl (hb hby d1_39) rfl (feq hc17).2 (by decide) (by decide) ?_
                show Steps p.tables e below (s₁.setTop (mkF m 45 #[.val (.int p0)] [])) _
                refine XS.iloadN X0.here hx rfl (hb hby d1_45) rfl ?_
                show Steps p.tables e below (s₁.setTop (mkF m 46 #[.val (.int p0)] [(.int p0)])) _
                refine XS.bipush X0.here hx rfl (hb hby d1_46) ?_
                show Steps p.tables e below (s₁.setTop (mkF m 48 #[.val (.int p0)] [(.int (6 : Int32)), (.int p0)])) _
                exact kq)
              by_cases hc20 : p0 = (6 : Int32)
              · have G21 : Go p e below A0 (s₁.setTop (mkF m 53 #[.val (.int p0)] [(.int (87 : Int32))])) := fun tq kq => G19 tq (by
                  refine XS.icmpNo X0.here hx rfl (hb hby d1_48) rfl (teq hc20).2 ?_
                  show Steps p.tables e below (s₁.setTop (mkF m 51 #[.val (.int p0)] [])) _
                  refine XS.bipush X0.here hx rfl (hb hby d1_51) ?_
                  show Steps p.tables e below (s₁.setTop (mkF m 53 #[.val (.int p0)] [(.int (87 : Int32))])) _
                  exact kq)
                obtain ⟨fs, hr, hrun, hended, hW, hsame⟩ := X0.leave (v := some (.int (87 : Int32))) (fun h => by rw [Bd.returns] at h; cases h)
                refine ⟨_, _, (by rw [← hA0]; exact G21 _ (retOut X0 hx (t := .int) Bd.returns rfl (Or.inl ⟨rfl, Or.inl rfl, _, rfl⟩) (hb hby d1_53) hr)), hrun, hended, _, _, rfl, ?_, ⟨_, rfl⟩, hW, hsame.mono (by decide) (by decide)⟩
                exact ⟨(by simp [own_anc, hc2, hc5, hc8, hc11, hc14, hc17, hc20]), N0, e0⟩
              · have G22 : Go p e below A0 (s₁.setTop (mkF m 57 #[.val (.int p0)] [(.int (7 : Int32)), (.int p0)])) := fun tq kq => G19 tq (by
                  refine XS.icmpYes X0.here hx rfl (pc0 := 48) (pc' := 54) rfl (hb hby d1_48) rfl (feq hc20).2 (by decide) (by decide) ?_
                  show Steps p.tables e below (s₁.setTop (mkF m 54 #[.val (.int p0)] [])) _
                  refine XS.iloadN X0.here hx rfl (hb hby d1_54) rfl ?_
                  show Steps p.tables e below (s₁.setTop (mkF m 55 #[.val (.int p0)] [(.int p0)])) _
                  refine XS.bipush X0.here hx rfl (hb hby d1_55) ?_
                  show Steps p.tables e below (s₁.setTop (mkF m 57 #[.val (.int p0)] [(.int (7 : Int32)), (.int p0)])) _
                  exact kq)
                by_cases hc23 : p0 = (7 : Int32)
                · have G24 : Go p e below A0 (s₁.setTop (mkF m 63 #[.val (.int p0)] [(.int (151 : Int32))])) := fun tq kq => G22 tq (by
                    refine XS.icmpNo X0.here hx rfl (hb hby d1_57) rfl (teq hc23).2 ?_
                    show Steps p.tables e below (s₁.setTop (mkF m 60 #[.val (.int p0)] [])) _
                    refine XS.sipush X0.here hx rfl (hb hby d1_60) ?_
                    show Steps p.tables e below (s₁.setTop (mkF m 63 #[.val (.int p0)] [(.int (151 : Int32))])) _
                    exact kq)
                  obtain ⟨fs, hr, hrun, hended, hW, hsame⟩ := X0.leave (v := some (.int (151 : Int32))) (fun h => by rw [Bd.returns] at h; cases h)
                  refine ⟨_, _, (by rw [← hA0]; exact G24 _ (retOut X0 hx (t := .int) Bd.returns rfl (Or.inl ⟨rfl, Or.inl rfl, _, rfl⟩) (hb hby d1_63) hr)), hrun, hended, _, _, rfl, ?_, ⟨_, rfl⟩, hW, hsame.mono (by decide) (by decide)⟩
                  exact ⟨(by simp [own_anc, hc2, hc5, hc8, hc11, hc14, hc17, hc20, hc23]), N0, e0⟩
                · have G25 : Go p e below A0 (s₁.setTop (mkF m 67 #[.val (.int p0)] [(.int (8 : Int32)), (.int p0)])) := fun tq kq => G22 tq (by
                    refine XS.icmpYes X0.here hx rfl (pc0 := 57) (pc' := 64) rfl (hb hby d1_57) rfl (feq hc23).2 (by decide) (by decide) ?_
                    show Steps p.tables e below (s₁.setTop (mkF m 64 #[.val (.int p0)] [])) _
                    refine XS.iloadN X0.here hx rfl (hb hby d1_64) rfl ?_
                    show Steps p.tables e below (s₁.setTop (mkF m 65 #[.val (.int p0)] [(.int p0)])) _
                    refine XS.bipush X0.here hx rfl (hb hby d1_65) ?_
                    show Steps p.tables e below (s₁.setTop (mkF m 67 #[.val (.int p0)] [(.int (8 : Int32)), (.int p0)])) _
                    exact kq)
                  by_cases hc26 : p0 = (8 : Int32)
                  · have G27 : Go p e below A0 (s₁.setTop (mkF m 73 #[.val (.int p0)] [(.int (257 : Int32))])) := fun tq kq => G25 tq (by
                      refine XS.icmpNo X0.here hx rfl (hb hby d1_67) rfl (teq hc26).2 ?_
                      show Steps p.tables e below (s₁.setTop (mkF m 70 #[.val (.int p0)] [])) _
                      refine XS.sipush X0.here hx rfl (hb hby d1_70) ?_
                      show Steps p.tables e below (s₁.setTop (mkF m 73 #[.val (.int p0)] [(.int (257 : Int32))])) _
                      exact kq)
                    obtain ⟨fs, hr, hrun, hended, hW, hsame⟩ := X0.leave (v := some (.int (257 : Int32))) (fun h => by rw [Bd.returns] at h; cases h)
                    refine ⟨_, _, (by rw [← hA0]; exact G27 _ (retOut X0 hx (t := .int) Bd.returns rfl (Or.inl ⟨rfl, Or.inl rfl, _, rfl⟩) (hb hby d1_73) hr)), hrun, hended, _, _, rfl, ?_, ⟨_, rfl⟩, hW, hsame.mono (by decide) (by decide)⟩
                    exact ⟨(by simp [own_anc, hc2, hc5, hc8, hc11, hc14, hc17, hc20, hc23, hc26]), N0, e0⟩
                  · have G28 : Go p e below A0 (s₁.setTop (mkF m 77 #[.val (.int p0)] [(.int (769 : Int32))])) := fun tq kq => G25 tq (by
                      refine XS.icmpYes X0.here hx rfl (pc0 := 67) (pc' := 74) rfl (hb hby d1_67) rfl (feq hc26).2 (by decide) (by decide) ?_
                      show Steps p.tables e below (s₁.setTop (mkF m 74 #[.val (.int p0)] [])) _
                      refine XS.sipush X0.here hx rfl (hb hby d1_74) ?_
                      show Steps p.tables e below (s₁.setTop (mkF m 77 #[.val (.int p0)] [(.int (769 : Int32))])) _
                      exact kq)
                    obtain ⟨fs, hr, hrun, hended, hW, hsame⟩ := X0.leave (v := some (.int (769 : Int32))) (fun h => by rw [Bd.returns] at h; cases h)
                    refine ⟨_, _, (by rw [← hA0]; exact G28 _ (retOut X0 hx (t := .int) Bd.returns rfl (Or.inl ⟨rfl, Or.inl rfl, _, rfl⟩) (hb hby d1_77) hr)), hrun, hended, _, _, rfl, ?_, ⟨_, rfl⟩, hW, hsame.mono (by decide) (by decide)⟩
                    exact ⟨(by simp [own_anc, hc2, hc5, hc8, hc11, hc14, hc17, hc20, hc23, hc26]), N0, e0⟩
set_option maxRecDepth 65536 in
set_option maxHeartbeats 40000000 in
theorem rm2 (l : Launch) (Z : State) (a0 : Array Value) (hw : ∀ d ∈ tables_1, d.before a0 Z = true) (ws : List Jvm.Cond) (p0 : Int32) (a_References a_HierarchicalReferences a_HasChild a_Organizes a_Aggregates a_HasSubtype a_HasProperty a_HasComponent a_NonHierarchicalReferences a_HasTypeDefinition : Addr) (h0 : Heap) (n0 : Nat) (Z0 : n0 ≤ h0.size) (S_References : Sta Z h0 "com/example/halyard/halyard/server/ReferenceType" "References" "Lcom/example/halyard/halyard/server/ReferenceType;" (.ref a_References)) (S_HierarchicalReferences : Sta Z h0 "com/example/halyard/halyard/server/ReferenceType" "HierarchicalReferences" "Lcom/example/halyard/halyard/server/ReferenceType;" (.ref a_HierarchicalReferences)) (S_HasChild : Sta Z h0 "com/example/halyard/halyard/server/ReferenceType" "HasChild" "Lcom/example/halyard/halyard/server/ReferenceType;" (.ref a_HasChild)) (S_Organizes : Sta Z h0 "com/example/halyard/halyard/server/ReferenceType" "Organizes" "Lcom/example/halyard/halyard/server/ReferenceType;" (.ref a_Organizes)) (S_Aggregates : Sta Z h0 "com/example/halyard/halyard/server/ReferenceType" "Aggregates" "Lcom/example/halyard/halyard/server/ReferenceType;" (.ref a_Aggregates)) (S_HasSubtype : Sta Z h0 "com/example/halyard/halyard/server/ReferenceType" "HasSubtype" "Lcom/example/halyard/halyard/server/ReferenceType;" (.ref a_HasSubtype)) (S_HasProperty : Sta Z h0 "com/example/halyard/halyard/server/ReferenceType" "HasProperty" "Lcom/example/halyard/halyard/server/ReferenceType;" (.ref a_HasProperty)) (S_HasComponent : Sta Z h0 "com/example/halyard/halyard/server/ReferenceType" "HasComponent" "Lcom/example/halyard/halyard/server/ReferenceType;" (.ref a_HasComponent)) (S_NonHierarchicalReferences : Sta Z h0 "com/example/halyard/halyard/server/ReferenceType" "NonHierarchicalReferences" "Lcom/example/halyard/halyard/server/ReferenceType;" (.ref a_NonHierarchicalReferences)) (S_HasTypeDefinition : Sta Z h0 "com/example/halyard/halyard/server/ReferenceType" "HasTypeDefinition" "Lcom/example/halyard/halyard/server/ReferenceType;" (.ref a_HasTypeDefinition)) :
    MetFree l (⟨"com/example/halyard/halyard/server/ReferenceTypeIsSubtypeOfPinLaw", "pick", "(I)Lcom/example/halyard/halyard/server/ReferenceType;"⟩ : MethodName) (head1 (Jvm.Cond.code (⟨"com/example/halyard/halyard/server/ReferenceTypeIsSubtypeOfPinLaw", "pick", "(I)Lcom/example/halyard/halyard/server/ReferenceType;"⟩ : MethodName) method_2_code 1 (some (.object "com/example/halyard/halyard/server/ReferenceType")) :: ws) ({ frames := 0, cells := 0, slots := 0, locals := 0 } : Room)) (fun aa UU => aa = #[(.int p0)] ∧ Z.Warmed39 UU.vm ∧ UU.heap = h0) (fun _ _ _ _ _ => True) (fun _ UU oo U' => ∃ v L, oo = .returned v ∧ Qr (.ref (own_pick a_References a_HierarchicalReferences a_HasChild a_Organizes a_Aggregates a_HasSubtype a_HasProperty a_HasComponent a_NonHierarchicalReferences a_HasTypeDefinition p0)) h0 n0 v U'.heap L ∧ FrameEnd UU oo U' L ({ frames := 0, cells := 0, slots := 0, locals := 0 } : Room).cells ({ frames := 0, cells := 0, slots := 0, locals := 0 } : Room).slots) := by
  refine MetFree.of_bodySF (plainFor_of_name pn_0) hisR ?_
  intro p e s m args below meth c s₁ Bd hml0 hP hK
  obtain ⟨rfl, hZ, hh⟩ := hP
  have hx := Bd.exec
  have hby := Bd.bytes
  have hml : c.maxLocals = 1 := hml0
  have hown : s.vm.findClass "com/example/halyard/halyard/server/ReferenceTypeIsSubtypeOfPinLaw" = some m.cls := findClass_of_methodNamed Bd.named
  have hnm := (name_of_methodNamed Bd.named Bd.method).1
  have X0 : Stand p l e ({ frames := 0, cells := 0, slots := 0, locals := 0 } : Room) s m #[(.int p0)] below meth c s₁ [] 0 0 := Stand.of_body Bd
  have e0 : s₁.heap = h0 := by rw [← hh, Bd.state]; rfl
  have N0 := Fr.nil n0
  obtain ⟨A0, hA0⟩ : ∃ A, A = s₁.setTop (entryFrame m #[(.int p0)] 1) := ⟨_, rfl⟩
  have G0 : Go p e below A0 (s₁.setTop (mkF m 0 #[.val (.int p0)] [])) := fun tq kq => by rw [hA0]; exact castTop (ef_rm2 m p0) kq
  have G29 : Go p e below A0 (s₁.setTop (mkF m 1 #[.val (.int p0)] [(.int p0)])) := fun tq kq => G0 tq (by
    refine XS.iloadN X0.here hx rfl (hb hby d2_0) rfl ?_
    show Steps p.tables e below (s₁.setTop (mkF m 1 #[.val (.int p0)] [(.int p0)])) _
    exact kq)
  by_cases hc30 : p0 = (0 : Int32)
  · have G31 : Go p e below A0 (s₁.setTop (mkF m 4 #[.val (.int p0)] [])) := fun tq kq => G29 tq (by
      refine XS.ifNo X0.here hx rfl (hb hby d2_1) rfl ((if0 _ _).trans (teq hc30).2) ?_
      show Steps p.tables e below (s₁.setTop (mkF m 4 #[.val (.int p0)] [])) _
      exact kq)
    obtain ⟨T32, X32, e32, st32⟩ := getS2 X0 hx hZ hown (host := "") (Or.inl (hw _ (List.mem_of_getElem? (i := 8) rfl))) Via.refl e0 S_References (g := (mkF m 4 #[.val (.int p0)] [])) rfl (hb hby d2_4)
    have G33 : Go p e below A0 (T32.setTop (mkF m 7 #[.val (.int p0)] [(.ref a_References)])) := fun tq kq => G31 tq (st32 _ kq)
    obtain ⟨fs, hr, hrun, hended, hW, hsame⟩ := X32.leave (v := some (.ref a_References)) (fun h => by rw [Bd.returns] at h; cases h)
    refine ⟨_, _, (by rw [← hA0]; exact G33 _ (retOut X32 hx (t := (.object "com/example/halyard/halyard/server/ReferenceType")) Bd.returns rfl (Or.inr (Or.inr (Or.inr (Or.inr ⟨rfl, rfl, rfl⟩)))) (hb hby d2_7) hr)), hrun, hended, _, _, rfl, ?_, ⟨_, rfl⟩, hW, hsame.mono (by decide) (by decide)⟩
    exact ⟨(by simp [own_pick, hc30]), N0, e32⟩
  · have G34 : Go p e below A0 (s₁.setTop (mkF m 10 #[.val (.int p0)] [(.int (1 : Int32)), (.int p0)])) := fun tq kq => G29 tq (by
      refine XS.ifYes X0.here hx rfl (pc0 := 1) (pc' := 8) rfl (hb hby d2_1) rfl ((if0 _ _).trans (feq hc30).2) (by decide) (by decide) ?_
      show Steps p.tables e below (s₁.setTop (mkF m 8 #[.val (.int p0)] [])) _
      refine XS.iloadN X0.here hx rfl (hb hby d2_8) rfl ?_
      show Steps p.tables e below (s₁.setTop (mkF m 9 #[.val (.int p0)] [(.int p0)])) _
      refine XS.iconst X0.here hx rfl (hb hby d2_9) ?_
      show Steps p.tables e below (s₁.setTop (mkF m 10 #[.val (.int p0)] [(.int (1 : Int32)), (.int p0)])) _
      exact kq)
    by_cases hc35 : p0 = (1 : Int32)
    · have G36 : Go p e below A0 (s₁.setTop (mkF m 13 #[.val (.int p0)] [])) := fun tq kq => G34 tq (by
        refine XS.icmpNo X0.here hx rfl (hb hby d2_10) rfl (teq hc35).2 ?_
        show Steps p.tables e below (s₁.setTop (mkF m 13 #[.val (.int p0)] [])) _
        exact kq)
      obtain ⟨T37, X37, e37, st37⟩ := getS2 X0 hx hZ hown (host := "") (Or.inl (hw _ (List.mem_of_getElem? (i := 22) rfl))) Via.refl e0 S_HierarchicalReferences (g := (mkF m 13 #[.val (.int p0)] [])) rfl (hb hby d2_13)
      have G38 : Go p e below A0 (T37.setTop (mkF m 16 #[.val (.int p0)] [(.ref a_HierarchicalReferences)])) := fun tq kq => G36 tq (st37 _ kq)
      obtain ⟨fs, hr, hrun, hended, hW, hsame⟩ := X37.leave (v := some (.ref a_HierarchicalReferences)) (fun h => by rw [Bd.returns] at h; cases h)
      refine ⟨_, _, (by rw [← hA0]; exact G38 _ (retOut X37 hx (t := (.object "com/example/halyard/halyard/server/ReferenceType")) Bd.returns rfl (Or.inr (Or.inr (Or.inr (Or.inr ⟨rfl, rfl, rfl⟩)))) (hb hby d2_16) hr)), hrun, hended, _, _, rfl, ?_, ⟨_, rfl⟩, hW, hsame.mono (by decide) (by decide)⟩
      exact ⟨(by simp [own_pick, hc30, hc35]), N0, e37⟩
    · have G39 : Go p e below A0 (s₁.setTop (mkF m 19 #[.val (.int p0)] [(.int (2 : Int32)), (.int p0)])) := fun tq kq => G34 tq (by
        refine XS.icmpYes X0.here hx rfl (pc0 := 10) (pc' := 17) rfl (hb hby d2_10) rfl (feq hc35).2 (by decide) (by decide) ?_
        show Steps p.tables e below (s₁.setTop (mkF m 17 #[.val (.int p0)] [])) _
        refine XS.iloadN X0.here hx rfl (hb hby d2_17) rfl ?_
        show Steps p.tables e below (s₁.setTop (mkF m 18 #[.val (.int p0)] [(.int p0)])) _
        refine XS.iconst X0.here hx rfl (hb hby d2_18) ?_
        show Steps p.tables e below (s₁.setTop (mkF m 19 #[.val (.int p0)] [(.int (2 : Int32)), (.int p0)])) _
        exact kq)
      by_cases hc40 : p0 = (2 : Int32)
      · have G41 : Go p e below A0 (s₁.setTop (mkF m 22 #[.val (.int p0)] [])) := fun tq kq => G39 tq (by
          refine XS.icmpNo X0.here hx rfl (hb hby d2_19) rfl (teq hc40).2 ?_
          show Steps p.tables e below (s₁.setTop (mkF m 22 #[.val (.int p0)] [])) _
          exact kq)
        obtain ⟨T42, X42, e42, st42⟩ := getS2 X0 hx hZ hown (host := "") (Or.inl (hw _ (List.mem_of_getElem? (i := 33) rfl))) Via.refl e0 S_HasChild (g := (mkF m 22 #[.val (.int p0)] [])) rfl (hb hby d2_22)
        have G43 : Go p e below A0 (T42.setTop (mkF m 25 #[.val (.int p0)] [(.ref a_HasChild)])) := fun tq kq => G41 tq (st42 _ kq)
        obtain ⟨fs, hr, hrun, hended, hW, hsame⟩ := X42.leave (v := some (.ref a_HasChild)) (fun h => by rw [Bd.returns] at h; cases h)
        refine ⟨_, _, (by rw [← hA0]; exact G43 _ (retOut X42 hx (t := (.object "com/example/halyard/halyard/server/ReferenceType")) Bd.returns rfl (Or.inr (Or.inr (Or.inr (Or.inr ⟨rfl, rfl, rfl⟩)))) (hb hby d2_25) hr)), hrun, hended, _, _, rfl, ?_, ⟨_, rfl⟩, hW, hsame.mono (by decide) (by decide)⟩
        exact ⟨(by simp [own_pick, hc30, hc35, hc40]), N0, e42⟩
      · have G44 : Go p e below A0 (s₁.setTop (mkF m 28 #[.val (.int p0)] [(.int (3 : Int32)), (.int p0)])) := fun tq kq => G39 tq (by
          refine XS.icmpYes X0.here hx rfl (pc0 := 19) (pc' := 26) rfl (hb hby d2_19) rfl (feq hc40).2 (by decide) (by decide) ?_
          show Steps p.tables e below (s₁.setTop (mkF m 26 #[.val (.int p0)] [])) _
          refine XS.iloadN X0.here hx rfl (hb hby d2_26) rfl ?_
          show Steps p.tables e below (s₁.setTop (mkF m 27 #[.val (.int p0)] [(.int p0)])) _
          refine XS.iconst X0.here hx rfl (hb hby d2_27) ?_
          show Steps p.tables e below (s₁.setTop (mkF m 28 #[.val (.int p0)] [(.int (3 : Int32)), (.int p0)])) _
          exact kq)
        by_cases hc45 : p0 = (3 : Int32)
        · have G46 : Go p e below A0 (s₁.setTop (mkF m 31 #[.val (.int p0)] [])) := fun tq kq => G44 tq (by
            refine XS.icmpNo X0.here hx rfl (hb hby d2_28) rfl (teq hc45).2 ?_
            show Steps p.tables e below (s₁.setTop (mkF m 31 #[.val (.int p0)] [])) _
            exact kq)
          obtain ⟨T47, X47, e47, st47⟩ := getS2 X0 hx hZ hown (host := "") (Or.inl (hw _ (List.mem_of_getElem? (i := 11) rfl))) Via.refl e0 S_Organizes (g := (mkF m 31 #[.val (.int p0)] [])) rfl (hb hby d2_31)
          have G48 : Go p e below A0 (T47.setTop (mkF m 34 #[.val (.int p0)] [(.ref a_Organizes)])) := fun tq kq => G46 tq (st47 _ kq)
          obtain ⟨fs, hr, hrun, hended, hW, hsame⟩ := X47.leave (v := some (.ref a_Organizes)) (fun h => by rw [Bd.returns] at h; cases h)
          refine ⟨_, _, (by rw [← hA0]; exact G48 _ (retOut X47 hx (t := (.object "com/example/halyard/halyard/server/ReferenceType")) Bd.returns rfl (Or.inr (Or.inr (Or.inr (Or.inr ⟨rfl, rfl, rfl⟩)))) (hb hby d2_34) hr)), hrun, hended, _, _, rfl, ?_, ⟨_, rfl⟩, hW, hsame.mono (by decide) (by decide)⟩
          exact ⟨(by simp [own_pick, hc30, hc35, hc40, hc45]), N0, e47⟩
        · have G49 : Go p e below A0 (s₁.setTop (mkF m 37 #[.val (.int p0)] [(.int (4 : Int32)), (.int p0)])) := fun tq kq => G44 tq (by
            refine XS.icmpYes X0.here hx rfl (pc0 := 28) (pc' := 35) rfl (hb hby d2_28) rfl (feq hc45).2 (by decide) (by decide) ?_
            show Steps p.tables e below (s₁.setTop (mkF m 35 #[.val (.int p0)] [])) _
            refine XS.iloadN X0.here hx rfl (hb hby d2_35) rfl ?_
            show Steps p.tables e below (s₁.setTop (mkF m 36 #[.val (.int p0)] [(.int p0)])) _
            refine XS.iconst X0.here hx rfl (hb hby d2_36) ?_
            show Steps p.tables e below (s₁.setTop (mkF m 37 #[.val (.int p0)] [(.int (4 : Int32)), (.int p0)])) _
            exact kq)
          by_cases hc50 : p0 = (4 : Int32)
          · have G51 : Go p e below A0 (s₁.setTop (mkF m 40 #[.val (.int p0)] [])) := fun tq kq => G49 tq (by
              refine XS.icmpNo X0.here hx rfl (hb hby d2_37) rfl (teq hc50).2 ?_
              show Steps p.tables e below (s₁.setTop (mkF m 40 #[.val (.int p0)] [])) _
              exact kq)
            obtain ⟨T52, X52, e52, st52⟩ := getS2 X0 hx hZ hown (host := "") (Or.inl (hw _ (List.mem_of_getElem? (i := 20) rfl))) Via.refl e0 S_Aggregates (g := (mkF m 40 #[.val (.int p0)] [])) rfl (hb hby d2_40)
            have G53 : Go p e below A0 (T52.setTop (mkF m 43 #[.val (.int p0)] [(.ref a_Aggregates)])) := fun tq kq => G51 tq (st52 _ kq)
            obtain ⟨fs, hr, hrun, hended, hW, hsame⟩ := X52.leave (v := some (.ref a_Aggregates)) (fun h => by rw [Bd.returns] at h; cases h)
            refine ⟨_, _, (by rw [← hA0]; exact G53 _ (retOut X52 hx (t := (.object "com/example/halyard/halyard/server/ReferenceType")) Bd.returns rfl (Or.inr (Or.inr (Or.inr (Or.inr ⟨rfl, rfl, rfl⟩)))) (hb hby d2_43) hr)), hrun, hended, _, _, rfl, ?_, ⟨_, rfl⟩, hW, hsame.mono (by decide) (by decide)⟩
            exact ⟨(by simp [own_pick, hc30, hc35, hc40, hc45, hc50]), N0, e52⟩
          · have G54 : Go p e below A0 (s₁.setTop (mkF m 46 #[.val (.int p0)] [(.int (5 : Int32)), (.int p0)])) := fun tq kq => G49 tq (by
              refine XS.icmpYes X0.here hx rfl (pc0 := 37) (pc' := 44) rfl (hb hby d2_37) rfl (feq hc50).2 (by decide) (by decide) ?_
              show Steps p.tables e below (s₁.setTop (mkF m 44 #[.val (.int p0)] [])) _
              refine XS.iloadN X0.here hx rfl (hb hby d2_44) rfl ?_
              show Steps p.tables e below (s₁.setTop (mkF m 45 #[.val (.int p0)] [(.int p0)])) _
              refine XS.iconst X0.here hx rfl (hb hby d2_45) ?_
              show Steps p.tables e below (s₁.setTop (mkF m 46 #[.val (.int p0)] [(.int (5 : Int32)), (.int p0)])) _
              exact kq)
            by_cases hc55 : p0 = (5 : Int32)
            · have G56 : Go p e below A0 (s₁.setTop (mkF m 49 #[.val (.int p0)] [])) := fun tq kq => G54 tq (by
                refine XS.icmpNo X0.here hx rfl (hb hby d2_46) rfl (teq hc55).2 ?_
                show Steps p.tables e below (s₁.setTop (mkF m 49 #[.val (.int p0)] [])) _
                exact kq)
              obtain ⟨T57, X57, e57, st57⟩ := getS2 X0 hx hZ hown (host := "") (Or.inl (hw _ (List.mem_of_getElem? (i := 34) rfl))) Via.refl e0 S_HasSubtype (g := (mkF m 49 #[.val (.int p0)] [])) rfl (hb hby d2_49)
              have G58 : Go p e below A0 (T57.setTop (mkF m 52 #[.val (.int p0)] [(.ref a_HasSubtype)])) := fun tq kq => G56 tq (st57 _ kq)
              obtain ⟨fs, hr, hrun, hended, hW, hsame⟩ := X57.leave (v := some (.ref a_HasSubtype)) (fun h => by rw [Bd.returns] at h; cases h)
              refine ⟨_, _, (by rw [← hA0]; exact G58 _ (retOut X57 hx (t := (.object "com/example/halyard/halyard/server/ReferenceType")) Bd.returns rfl (Or.inr (Or.inr (Or.inr (Or.inr ⟨rfl, rfl, rfl⟩)))) (hb hby d2_52) hr)), hrun, hended, _, _, rfl, ?_, ⟨_, rfl⟩, hW, hsame.mono (by decide) (by decide)⟩
              exact ⟨(by simp [own_pick, hc30, hc35, hc40, hc45, hc50, hc55]), N0, e57⟩
            · have G59 : Go p e below A0 (s₁.setTop (mkF m 56 #[.val (.int p0)] [(.int (6 : Int32)), (.int p0)])) := fun tq kq => G54 tq (by
                refine XS.icmpYes X0.here hx rfl (pc0 := 46) (pc' := 53) rfl (hb hby d2_46) rfl (feq hc55).2 (by decide) (by decide) ?_
                show Steps p.tables e below (s₁.setTop (mkF m 53 #[.val (.int p0)] [])) _
                refine XS.iloadN X0.here hx rfl (hb hby d2_53) rfl ?_
                show Steps p.tables e below (s₁.setTop (mkF m 54 #[.val (.int p0)] [(.int p0)])) _
                refine XS.bipush X0.here hx rfl (hb hby d2_54) ?_
                show Steps p.tables e below (s₁.setTop (mkF m 56 #[.val (.int p0)] [(.int (6 : Int32)), (.int p0)])) _
                exact kq)
              by_cases hc60 : p0 = (6 : Int32)
              · have G61 : Go p e below A0 (s₁.setTop (mkF m 59 #[.val (.int p0)] [])) := fun tq kq => G59 tq (by
                  refine XS.icmpNo X0.here hx rfl (hb hby d2_56) rfl (teq hc60).2 ?_
                  show Steps p.tables e below (s₁.setTop (mkF m 59 #[.val (.int p0)] [])) _
                  exact kq)
                obtain ⟨T62, X62, e62, st62⟩ := getS2 X0 hx hZ hown (host := "") (Or.inl (hw _ (List.mem_of_getElem? (i := 27) rfl))) Via.refl e0 S_HasProperty (g := (mkF m 59 #[.val (.int p0)] [])) rfl (hb hby d2_59)
                have G63 : Go p e below A0 (T62.setTop (mkF m 62 #[.val (.int p0)] [(.ref a_HasProperty)])) := fun tq kq => G61 tq (st62 _ kq)
                obtain ⟨fs, hr, hrun, hended, hW, hsame⟩ := X62.leave (v := some (.ref a_HasProperty)) (fun h => by rw [Bd.returns] at h; cases h)
                refine ⟨_, _, (by rw [← hA0]; exact G63 _ (retOut X62 hx (t := (.object "com/example/halyard/halyard/server/ReferenceType")) Bd.returns rfl (Or.inr (Or.inr (Or.inr (Or.inr ⟨rfl, rfl, rfl⟩)))) (hb hby d2_62) hr)), hrun, hended, _, _, rfl, ?_, ⟨_, rfl⟩, hW, hsame.mono (by decide) (by decide)⟩
                exact ⟨(by simp [own_pick, hc30, hc35, hc40, hc45, hc50, hc55, hc60]), N0, e62⟩
              · have G64 : Go p e below A0 (s₁.setTop (mkF m 66 #[.val (.int p0)] [(.int (7 : Int32)), (.int p0)])) := fun tq kq => G59 tq (by
                  refine XS.icmpYes X0.here hx rfl (pc0 := 56) (pc' := 63) rfl (hb hby d2_56) rfl (feq hc60).2 (by decide) (by decide) ?_
                  show Steps p.tables e below (s₁.setTop (mkF m 63 #[.val (.int p0)] [])) _
                  refine XS.iloadN X0.here hx rfl (hb hby d2_63) rfl ?_
                  show Steps p.tables e below (s₁.setTop (mkF m 64 #[.val (.int p0)] [(.int p0)])) _
                  refine XS.bipush X0.here hx rfl (hb hby d2_64) ?_
                  show Steps p.tables e below (s₁.setTop (mkF m 66 #[.val (.int p0)] [(.int (7 : Int32)), (.int p0)])) _
                  exact kq)
                by_cases hc65 : p0 = (7 : Int32)
                · have G66 : Go p e below A0 (s₁.setTop (mkF m 69 #[.val (.int p0)] [])) := fun tq kq => G64 tq (by
                    refine XS.icmpNo X0.here hx rfl (hb hby d2_66) rfl (teq hc65).2 ?_
                    show Steps p.tables e below (s₁.setTop (mkF m 69 #[.val (.int p0)] [])) _
                    exact kq)
                  obtain ⟨T67, X67, e67, st67⟩ := getS2 X0 hx hZ hown (host := "") (Or.inl (hw _ (List.mem_of_getElem? (i := 31) rfl))) Via.refl e0 S_HasComponent (g := (mkF m 69 #[.val (.int p0)] [])) rfl (hb hby d2_69)
                  have G68 : Go p e below A0 (T67.setTop (mkF m 72 #[.val (.int p0)] [(.ref a_HasComponent)])) := fun tq kq => G66 tq (st67 _ kq)
                  obtain ⟨fs, hr, hrun, hended, hW, hsame⟩ := X67.leave (v := some (.ref a_HasComponent)) (fun h => by rw [Bd.returns] at h; cases h)
                  refine ⟨_, _, (by rw [← hA0]; exact G68 _ (retOut X67 hx (t := (.object "com/example/halyard/halyard/server/ReferenceType")) Bd.returns rfl (Or.inr (Or.inr (Or.inr (Or.inr ⟨rfl, rfl, rfl⟩)))) (hb hby d2_72) hr)), hrun, hended, _, _, rfl, ?_, ⟨_, rfl⟩, hW, hsame.mono (by decide) (by decide)⟩
                  exact ⟨(by simp [own_pick, hc30, hc35, hc40, hc45, hc50, hc55, hc60, hc65]), N0, e67⟩
                · have G69 : Go p e below A0 (s₁.setTop (mkF m 76 #[.val (.int p0)] [(.int (8 : Int32)), (.int p0)])) := fun tq kq => G64 tq (by
                    refine XS.icmpYes X0.here hx rfl (pc0 := 66) (pc' := 73) rfl (hb hby d2_66) rfl (feq hc65).2 (by decide) (by decide) ?_
                    show Steps p.tables e below (s₁.setTop (mkF m 73 #[.val (.int p0)] [])) _
                    refine XS.iloadN X0.here hx rfl (hb hby d2_73) rfl ?_
                    show Steps p.tables e below (s₁.setTop (mkF m 74 #[.val (.int p0)] [(.int p0)])) _
                    refine XS.bipush X0.here hx rfl (hb hby d2_74) ?_
                    show Steps p.tables e below (s₁.setTop (mkF m 76 #[.val (.int p0)] [(.int (8 : Int32)), (.int p0)])) _
                    exact kq)
                  by_cases hc70 : p0 = (8 : Int32)
                  · have G71 : Go p e below A0 (s₁.setTop (mkF m 79 #[.val (.int p0)] [])) := fun tq kq => G69 tq (by
                      refine XS.icmpNo X0.here hx rfl (hb hby d2_76) rfl (teq hc70).2 ?_
                      show Steps p.tables e below (s₁.setTop (mkF m 79 #[.val (.int p0)] [])) _
                      exact kq)
                    obtain ⟨T72, X72, e72, st72⟩ := getS2 X0 hx hZ hown (host := "") (Or.inl (hw _ (List.mem_of_getElem? (i := 25) rfl))) Via.refl e0 S_NonHierarchicalReferences (g := (mkF m 79 #[.val (.int p0)] [])) rfl (hb hby d2_79)
                    have G73 : Go p e below A0 (T72.setTop (mkF m 82 #[.val (.int p0)] [(.ref a_NonHierarchicalReferences)])) := fun tq kq => G71 tq (st72 _ kq)
                    obtain ⟨fs, hr, hrun, hended, hW, hsame⟩ := X72.leave (v := some (.ref a_NonHierarchicalReferences)) (fun h => by rw [Bd.returns] at h; cases h)
                    refine ⟨_, _, (by rw [← hA0]; exact G73 _ (retOut X72 hx (t := (.object "com/example/halyard/halyard/server/ReferenceType")) Bd.returns rfl (Or.inr (Or.inr (Or.inr (Or.inr ⟨rfl, rfl, rfl⟩)))) (hb hby d2_82) hr)), hrun, hended, _, _, rfl, ?_, ⟨_, rfl⟩, hW, hsame.mono (by decide) (by decide)⟩
                    exact ⟨(by simp [own_pick, hc30, hc35, hc40, hc45, hc50, hc55, hc60, hc65, hc70]), N0, e72⟩
                  · have G74 : Go p e below A0 (s₁.setTop (mkF m 83 #[.val (.int p0)] [])) := fun tq kq => G69 tq (by
                      refine XS.icmpYes X0.here hx rfl (pc0 := 76) (pc' := 83) rfl (hb hby d2_76) rfl (feq hc70).2 (by decide) (by decide) ?_
                      show Steps p.tables e below (s₁.setTop (mkF m 83 #[.val (.int p0)] [])) _
                      exact kq)
                    obtain ⟨T75, X75, e75, st75⟩ := getS2 X0 hx hZ hown (host := "") (Or.inl (hw _ (List.mem_of_getElem? (i := 29) rfl))) Via.refl e0 S_HasTypeDefinition (g := (mkF m 83 #[.val (.int p0)] [])) rfl (hb hby d2_83)
                    have G76 : Go p e below A0 (T75.setTop (mkF m 86 #[.val (.int p0)] [(.ref a_HasTypeDefinition)])) := fun tq kq => G74 tq (st75 _ kq)
                    obtain ⟨fs, hr, hrun, hended, hW, hsame⟩ := X75.leave (v := some (.ref a_HasTypeDefinition)) (fun h => by rw [Bd.returns] at h; cases h)
                    refine ⟨_, _, (by rw [← hA0]; exact G76 _ (retOut X75 hx (t := (.object "com/example/halyard/halyard/server/ReferenceType")) Bd.returns rfl (Or.inr (Or.inr (Or.inr (Or.inr ⟨rfl, rfl, rfl⟩)))) (hb hby d2_86) hr)), hrun, hended, _, _, rfl, ?_, ⟨_, rfl⟩, hW, hsame.mono (by decide) (by decide)⟩
                    exact ⟨(by simp [own_pick, hc30, hc35, hc40, hc45, hc50, hc55, hc60, hc65, hc70]), N0, e75⟩
set_option maxRecDepth 65536 in
set_option maxHeartbeats 40000000 in
theorem rm3_0 (l : Launch) (Z : State) (a0 : Array Value) (hw : ∀ d ∈ tables_1, d.before a0 Z = true) (ws : List Jvm.Cond) (a_References t : Addr) (h0 : Heap) (n0 : Nat) (Z0 : n0 ≤ h0.size) (F_a_References_supertype : Fld Z h0 a_References "com/example/halyard/halyard/server/ReferenceType" "supertype" "Lcom/example/halyard/halyard/server/ReferenceType;" .null) :
    MetFree l (⟨"com/example/halyard/halyard/server/ReferenceType", "isSubtypeOf", "(Lcom/example/halyard/halyard/server/ReferenceType;)Z"⟩ : MethodName) (head1 (Jvm.Cond.code (⟨"com/example/halyard/halyard/server/ReferenceType", "isSubtypeOf", "(Lcom/example/halyard/halyard/server/ReferenceType;)Z"⟩ : MethodName) prog_116_method_8_code 3 (some .boolean) :: ws) ({ frames := 0, cells := 0, slots := 0, locals := 0 } : Room)) (fun aa UU => aa = #[(.ref a_References), (.ref t)] ∧ Z.Warmed39 UU.vm ∧ UU.heap = h0) (fun _ _ _ _ _ => True) (fun _ UU oo U' => ∃ v L, oo = .returned v ∧ Qr (.int (own_b (a_References = t))) h0 n0 v U'.heap L ∧ FrameEnd UU oo U' L ({ frames := 0, cells := 0, slots := 0, locals := 0 } : Room).cells ({ frames := 0, cells := 0, slots := 0, locals := 0 } : Room).slots) := by
  refine MetFree.of_bodySF (plainFor_of_name pn_1) hisR ?_
  intro p e s m args below meth c s₁ Bd hml0 hP hK
  obtain ⟨rfl, hZ, hh⟩ := hP
  have hx := Bd.exec
  have hby := Bd.bytes
  have hml : c.maxLocals = 3 := hml0
  have hown : s.vm.findClass "com/example/halyard/halyard/server/ReferenceType" = some m.cls := findClass_of_methodNamed Bd.named
  have hnm := (name_of_methodNamed Bd.named Bd.method).1
  have X0 : Stand p l e ({ frames := 0, cells := 0, slots := 0, locals := 0 } : Room) s m #[(.ref a_References), (.ref t)] below meth c s₁ [] 0 0 := Stand.of_body Bd
  have e0 : s₁.heap = h0 := by rw [← hh, Bd.state]; rfl
  have N0 := Fr.nil n0
  obtain ⟨A0, hA0⟩ : ∃ A, A = s₁.setTop (entryFrame m #[(.ref a_References), (.ref t)] 3) := ⟨_, rfl⟩
  have G0 : Go p e below A0 (s₁.setTop (mkF m 0 #[.val (.ref a_References), .val (.ref t), .unset] [])) := fun tq kq => by rw [hA0]; exact castTop (ef_rm3_0 m a_References t) kq
  have G77 : Go p e below A0 (s₁.setTop (mkF m 8 #[.val (.ref a_References), .val (.ref t), .val (.ref a_References)] [(.ref t), (.ref a_References)])) := fun tq kq => G0 tq (by
    refine XS.aloadN X0.here hx rfl (hb hby d3_0) rfl rfl ?_
    show Steps p.tables e below (s₁.setTop (mkF m 1 #[.val (.ref a_References), .val (.ref t), .unset] [(.ref a_References)])) _
    refine XS.astoreN X0.here hx rfl (hb hby d3_1) rfl rfl (l' := #[.val (.ref a_References), .val (.ref t), .val (.ref a_References)]) rfl ?_
    show Steps p.tables e below (s₁.setTop (mkF m 2 #[.val (.ref a_References), .val (.ref t), .val (.ref a_References)] [])) _
    refine XS.aloadN X0.here hx rfl (hb hby d3_2) rfl rfl ?_
    show Steps p.tables e below (s₁.setTop (mkF m 3 #[.val (.ref a_References), .val (.ref t), .val (.ref a_References)] [(.ref a_References)])) _
    refine XS.ifnullNo X0.here hx rfl (hb hby d3_3) rfl ?_
    show Steps p.tables e below (s₁.setTop (mkF m 6 #[.val (.ref a_References), .val (.ref t), .val (.ref a_References)] [])) _
    refine XS.aloadN X0.here hx rfl (hb hby d3_6) rfl rfl ?_
    show Steps p.tables e below (s₁.setTop (mkF m 7 #[.val (.ref a_References), .val (.ref t), .val (.ref a_References)] [(.ref a_References)])) _
    refine XS.aloadN X0.here hx rfl (hb hby d3_7) rfl rfl ?_
    show Steps p.tables e below (s₁.setTop (mkF m 8 #[.val (.ref a_References), .val (.ref t), .val (.ref a_References)] [(.ref t), (.ref a_References)])) _
    exact kq)
  by_cases hc78 : a_References = t
  · have G79 : Go p e below A0 (s₁.setTop (mkF m 29 #[.val (.ref a_References), .val (.ref t), .val (.ref a_References)] [(.int (1 : Int32))])) := fun tq kq => G77 tq (by
      refine Jvm.RoadKit.acmp (g := (mkF m 8 #[.val (.ref a_References), .val (.ref t), .val (.ref a_References)] [(.ref t), (.ref a_References)])) X0 hx rfl rfl rfl (pc0 := 8) (pc' := 19) (same := true) rfl (hb hby d3_8) rfl (decide_eq_true (congrArg Value.ref hc78)) (by decide) (by decide) ?_
      show Steps p.tables e below (s₁.setTop (mkF m 19 #[.val (.ref a_References), .val (.ref t), .val (.ref a_References)] [])) _
      refine XS.aloadN X0.here hx rfl (hb hby d3_19) rfl rfl ?_
      show Steps p.tables e below (s₁.setTop (mkF m 20 #[.val (.ref a_References), .val (.ref t), .val (.ref a_References)] [(.ref a_References)])) _
      refine XS.aloadN X0.here hx rfl (hb hby d3_20) rfl rfl ?_
      show Steps p.tables e below (s₁.setTop (mkF m 21 #[.val (.ref a_References), .val (.ref t), .val (.ref a_References)] [(.ref t), (.ref a_References)])) _
      refine Jvm.RoadKit.acmp (g := (mkF m 21 #[.val (.ref a_References), .val (.ref t), .val (.ref a_References)] [(.ref t), (.ref a_References)])) X0 hx rfl rfl rfl (pc0 := 21) (pc' := 24) (same := true) rfl (hb hby d3_21) rfl (decide_eq_true (congrArg Value.ref hc78)) (by decide) (by decide) ?_
      show Steps p.tables e below (s₁.setTop (mkF m 24 #[.val (.ref a_References), .val (.ref t), .val (.ref a_References)] [])) _
      refine XS.iconst X0.here hx rfl (hb hby d3_24) ?_
      show Steps p.tables e below (s₁.setTop (mkF m 25 #[.val (.ref a_References), .val (.ref t), .val (.ref a_References)] [(.int (1 : Int32))])) _
      refine XS.goto X0.here hx rfl (pc0 := 25) (pc' := 29) rfl (hb hby d3_25) (by decide) (by decide) ?_
      show Steps p.tables e below (s₁.setTop (mkF m 29 #[.val (.ref a_References), .val (.ref t), .val (.ref a_References)] [(.int (1 : Int32))])) _
      exact kq)
    obtain ⟨fs, hr, hrun, hended, hW, hsame⟩ := X0.leave (v := some (.int (nar .boolean (1 : Int32)))) (fun h => by rw [Bd.returns] at h; cases h)
    refine ⟨_, _, (by rw [← hA0]; exact G79 _ (retN X0 hx (t := .boolean) Bd.returns (by simp) (hb hby d3_29) hr)), hrun, hended, _, _, rfl, ?_, ⟨_, rfl⟩, hW, hsame.mono (by decide) (by decide)⟩
    exact ⟨(by rw [show own_b (a_References = t) = (1 : Int32) from by simp [own_b, hc78]]; rfl), N0, e0⟩
  · have G80 : Go p e below A0 (s₁.setTop (mkF m 12 #[.val (.ref a_References), .val (.ref t), .val (.ref a_References)] [(.ref a_References)])) := fun tq kq => G77 tq (by
      refine Jvm.RoadKit.acmp (g := (mkF m 8 #[.val (.ref a_References), .val (.ref t), .val (.ref a_References)] [(.ref t), (.ref a_References)])) X0 hx rfl rfl rfl (pc0 := 8) (pc' := 11) (same := false) rfl (hb hby d3_8) rfl (decide_eq_false fun q => hc78 (Value.ref.inj q)) (by decide) (by decide) ?_
      show Steps p.tables e below (s₁.setTop (mkF m 11 #[.val (.ref a_References), .val (.ref t), .val (.ref a_References)] [])) _
      refine XS.aloadN X0.here hx rfl (hb hby d3_11) rfl rfl ?_
      show Steps p.tables e below (s₁.setTop (mkF m 12 #[.val (.ref a_References), .val (.ref t), .val (.ref a_References)] [(.ref a_References)])) _
      exact kq)
    obtain ⟨T81, X81, e81, st81⟩ := getF X0 hx hZ hown (host := "") (Or.inl (hw _ (List.mem_of_getElem? (i := 18) rfl))) Via.refl e0 F_a_References_supertype (g := (mkF m 12 #[.val (.ref a_References), .val (.ref t), .val (.ref a_References)] [(.ref a_References)])) rfl rfl (hb hby d3_12)
    have G82 : Go p e below A0 (T81.setTop (mkF m 15 #[.val (.ref a_References), .val (.ref t), .val (.ref a_References)] [.null])) := fun tq kq => G80 tq (st81 _ kq)
    have G83 : Go p e below A0 (T81.setTop (mkF m 29 #[.val (.ref a_References), .val (.ref t), .val .null] [(.int (0 : Int32))])) := fun tq kq => G82 tq (by
      refine XS.astoreN X81.here hx rfl (hb hby d3_15) rfl rfl (l' := #[.val (.ref a_References), .val (.ref t), .val .null]) rfl ?_
      show Steps p.tables e below (T81.setTop (mkF m 16 #[.val (.ref a_References), .val (.ref t), .val .null] [])) _
      refine XS.goto X81.here hx rfl (pc0 := 16) (pc' := 2) rfl (hb hby d3_16) (by decide) (by decide) ?_
      show Steps p.tables e below (T81.setTop (mkF m 2 #[.val (.ref a_References), .val (.ref t), .val .null] [])) _
      refine XS.aloadN X81.here hx rfl (hb hby d3_2) rfl rfl ?_
      show Steps p.tables e below (T81.setTop (mkF m 3 #[.val (.ref a_References), .val (.ref t), .val .null] [.null])) _
      refine XS.ifnullYes X81.here hx rfl (pc0 := 3) (pc' := 19) rfl (hb hby d3_3) rfl (by decide) (by decide) ?_
      show Steps p.tables e below (T81.setTop (mkF m 19 #[.val (.ref a_References), .val (.ref t), .val .null] [])) _
      refine XS.aloadN X81.here hx rfl (hb hby d3_19) rfl rfl ?_
      show Steps p.tables e below (T81.setTop (mkF m 20 #[.val (.ref a_References), .val (.ref t), .val .null] [.null])) _
      refine XS.aloadN X81.here hx rfl (hb hby d3_20) rfl rfl ?_
      show Steps p.tables e below (T81.setTop (mkF m 21 #[.val (.ref a_References), .val (.ref t), .val .null] [(.ref t), .null])) _
      refine Jvm.RoadKit.acmp (g := (mkF m 21 #[.val (.ref a_References), .val (.ref t), .val .null] [(.ref t), .null])) X81 hx rfl rfl rfl (pc0 := 21) (pc' := 28) (same := false) rfl (hb hby d3_21) rfl (decide_eq_false nofun) (by decide) (by decide) ?_
      show Steps p.tables e below (T81.setTop (mkF m 28 #[.val (.ref a_References), .val (.ref t), .val .null] [])) _
      refine XS.iconst X81.here hx rfl (hb hby d3_28) ?_
      show Steps p.tables e below (T81.setTop (mkF m 29 #[.val (.ref a_References), .val (.ref t), .val .null] [(.int (0 : Int32))])) _
      exact kq)
    obtain ⟨fs, hr, hrun, hended, hW, hsame⟩ := X81.leave (v := some (.int (nar .boolean (0 : Int32)))) (fun h => by rw [Bd.returns] at h; cases h)
    refine ⟨_, _, (by rw [← hA0]; exact G83 _ (retN X81 hx (t := .boolean) Bd.returns (by simp) (hb hby d3_29) hr)), hrun, hended, _, _, rfl, ?_, ⟨_, rfl⟩, hW, hsame.mono (by decide) (by decide)⟩
    exact ⟨(by rw [show own_b (a_References = t) = (0 : Int32) from by simp [own_b, hc78]]; rfl), N0, e81⟩
set_option maxRecDepth 65536 in
set_option maxHeartbeats 40000000 in
theorem rm3_1 (l : Launch) (Z : State) (a0 : Array Value) (hw : ∀ d ∈ tables_1, d.before a0 Z = true) (ws : List Jvm.Cond) (a_HierarchicalReferences a_References t : Addr) (h0 : Heap) (n0 : Nat) (Z0 : n0 ≤ h0.size) (F_a_HierarchicalReferences_supertype : Fld Z h0 a_HierarchicalReferences "com/example/halyard/halyard/server/ReferenceType" "supertype" "Lcom/example/halyard/halyard/server/ReferenceType;" (.ref a_References)) (F_a_References_supertype : Fld Z h0 a_References "com/example/halyard/halyard/server/ReferenceType" "supertype" "Lcom/example/halyard/halyard/server/ReferenceType;" .null) :
    MetFree l (⟨"com/example/halyard/halyard/server/ReferenceType", "isSubtypeOf", "(Lcom/example/halyard/halyard/server/ReferenceType;)Z"⟩ : MethodName) (head1 (Jvm.Cond.code (⟨"com/example/halyard/halyard/server/ReferenceType", "isSubtypeOf", "(Lcom/example/halyard/halyard/server/ReferenceType;)Z"⟩ : MethodName) prog_116_method_8_code 3 (some .boolean) :: ws) ({ frames := 0, cells := 0, slots := 0, locals := 0 } : Room)) (fun aa UU => aa = #[(.ref a_HierarchicalReferences), (.ref t)] ∧ Z.Warmed39 UU.vm ∧ UU.heap = h0) (fun _ _ _ _ _ => True) (fun _ UU oo U' => ∃ v L, oo = .returned v ∧ Qr (.int (own_b (a_HierarchicalReferences = t ∨ a_References = t))) h0 n0 v U'.heap L ∧ FrameEnd UU oo U' L ({ frames := 0, cells := 0, slots := 0, locals := 0 } : Room).cells ({ frames := 0, cells := 0, slots := 0, locals := 0 } : Room).slots) := by
  refine MetFree.of_bodySF (plainFor_of_name pn_1) hisR ?_
  intro p e s m args below meth c s₁ Bd hml0 hP hK
  obtain ⟨rfl, hZ, hh⟩ := hP
  have hx := Bd.exec
  have hby := Bd.bytes
  have hml : c.maxLocals = 3 := hml0
  have hown : s.vm.findClass "com/example/halyard/halyard/server/ReferenceType" = some m.cls := findClass_of_methodNamed Bd.named
  have hnm := (name_of_methodNamed Bd.named Bd.method).1
  have X0 : Stand p l e ({ frames := 0, cells := 0, slots := 0, locals := 0 } : Room) s m #[(.ref a_HierarchicalReferences), (.ref t)] below meth c s₁ [] 0 0 := Stand.of_body Bd
  have e0 : s₁.heap = h0 := by rw [← hh, Bd.state]; rfl
  have N0 := Fr.nil n0
  obtain ⟨A0, hA0⟩ : ∃ A, A = s₁.setTop (entryFrame m #[(.ref a_HierarchicalReferences), (.ref t)] 3) := ⟨_, rfl⟩
  have G0 : Go p e below A0 (s₁.setTop (mkF m 0 #[.val (.ref a_HierarchicalReferences), .val (.ref t), .unset] [])) := fun tq kq => by rw [hA0]; exact castTop (ef_rm3_1 m a_HierarchicalReferences t) kq
  have G84 : Go p e below A0 (s₁.setTop (mkF m 8 #[.val (.ref a_HierarchicalReferences), .val (.ref t), .val (.ref a_HierarchicalReferences)] [(.ref t), (.ref a_HierarchicalReferences)])) := fun tq kq => G0 tq (by
    refine XS.aloadN X0.here hx rfl (hb hby d3_0) rfl rfl ?_
    show Steps p.tables e below (s₁.setTop (mkF m 1 #[.val (.ref a_HierarchicalReferences), .val (.ref t), .unset] [(.ref a_HierarchicalReferences)])) _
    refine XS.astoreN X0.here hx rfl (hb hby d3_1) rfl rfl (l' := #[.val (.ref a_HierarchicalReferences), .val (.ref t), .val (.ref a_HierarchicalReferences)]) rfl ?_
    show Steps p.tables e below (s₁.setTop (mkF m 2 #[.val (.ref a_HierarchicalReferences), .val (.ref t), .val (.ref a_HierarchicalReferences)] [])) _
    refine XS.aloadN X0.here hx rfl (hb hby d3_2) rfl rfl ?_
    show Steps p.tables e below (s₁.setTop (mkF m 3 #[.val (.ref a_HierarchicalReferences), .val (.ref t), .val (.ref a_HierarchicalReferences)] [(.ref a_HierarchicalReferences)])) _
    refine XS.ifnullNo X0.here hx rfl (hb hby d3_3) rfl ?_
    show Steps p.tables e below (s₁.setTop (mkF m 6 #[.val (.ref a_HierarchicalReferences), .val (.ref t), .val (.ref a_HierarchicalReferences)] [])) _
    refine XS.aloadN X0.here hx rfl (hb hby d3_6) rfl rfl ?_
    show Steps p.tables e below (s₁.setTop (mkF m 7 #[.val (.ref a_HierarchicalReferences), .val (.ref t), .val (.ref a_HierarchicalReferences)] [(.ref a_HierarchicalReferences)])) _
    refine XS.aloadN X0.here hx rfl (hb hby d3_7) rfl rfl ?_
    show Steps p.tables e below (s₁.setTop (mkF m 8 #[.val (.ref a_HierarchicalReferences), .val (.ref t), .val (.ref a_HierarchicalReferences)] [(.ref t), (.ref a_HierarchicalReferences)])) _
    exact kq)
  by_cases hc85 : a_HierarchicalReferences = t
  · have G86 : Go p e below A0 (s₁.setTop (mkF m 29 #[.val (.ref a_HierarchicalReferences), .val (.ref t), .val (.ref a_HierarchicalReferences)] [(.int (1 : Int32))])) := fun tq kq => G84 tq (by
      refine Jvm.RoadKit.acmp (g := (mkF m 8 #[.val (.ref a_HierarchicalReferences), .val (.ref t), .val (.ref a_HierarchicalReferences)] [(.ref t), (.ref a_HierarchicalReferences)])) X0 hx rfl rfl rfl (pc0 := 8) (pc' := 19) (same := true) rfl (hb hby d3_8) rfl (decide_eq_true (congrArg Value.ref hc85)) (by decide) (by decide) ?_
      show Steps p.tables e below (s₁.setTop (mkF m 19 #[.val (.ref a_HierarchicalReferences), .val (.ref t), .val (.ref a_HierarchicalReferences)] [])) _
      refine XS.aloadN X0.here hx rfl (hb hby d3_19) rfl rfl ?_
      show Steps p.tables e below (s₁.setTop (mkF m 20 #[.val (.ref a_HierarchicalReferences), .val (.ref t), .val (.ref a_HierarchicalReferences)] [(.ref a_HierarchicalReferences)])) _
      refine XS.aloadN X0.here hx rfl (hb hby d3_20) rfl rfl ?_
      show Steps p.tables e below (s₁.setTop (mkF m 21 #[.val (.ref a_HierarchicalReferences), .val (.ref t), .val (.ref a_HierarchicalReferences)] [(.ref t), (.ref a_HierarchicalReferences)])) _
      refine Jvm.RoadKit.acmp (g := (mkF m 21 #[.val (.ref a_HierarchicalReferences), .val (.ref t), .val (.ref a_HierarchicalReferences)] [(.ref t), (.ref a_HierarchicalReferences)])) X0 hx rfl rfl rfl (pc0 := 21) (pc' := 24) (same := true) rfl (hb hby d3_21) rfl (decide_eq_true (congrArg Value.ref hc85)) (by decide) (by decide) ?_
      show Steps p.tables e below (s₁.setTop (mkF m 24 #[.val (.ref a_HierarchicalReferences), .val (.ref t), .val (.ref a_HierarchicalReferences)] [])) _
      refine XS.iconst X0.here hx rfl (hb hby d3_24) ?_
      show Steps p.tables e below (s₁.setTop (mkF m 25 #[.val (.ref a_HierarchicalReferences), .val (.ref t), .val (.ref a_HierarchicalReferences)] [(.int (1 : Int32))])) _
      refine XS.goto X0.here hx rfl (pc0 := 25) (pc' := 29) rfl (hb hby d3_25) (by decide) (by decide) ?_
      show Steps p.tables e below (s₁.setTop (mkF m 29 #[.val (.ref a_HierarchicalReferences), .val (.ref t), .val (.ref a_HierarchicalReferences)] [(.int (1 : Int32))])) _
      exact kq)
    obtain ⟨fs, hr, hrun, hended, hW, hsame⟩ := X0.leave (v := some (.int (nar .boolean (1 : Int32)))) (fun h => by rw [Bd.returns] at h; cases h)
    refine ⟨_, _, (by rw [← hA0]; exact G86 _ (retN X0 hx (t := .boolean) Bd.returns (by simp) (hb hby d3_29) hr)), hrun, hended, _, _, rfl, ?_, ⟨_, rfl⟩, hW, hsame.mono (by decide) (by decide)⟩
    exact ⟨(by rw [show own_b (a_HierarchicalReferences = t ∨ a_References = t) = (1 : Int32) from by simp [own_b, hc85]]; rfl), N0, e0⟩
  · have G87 : Go p e below A0 (s₁.setTop (mkF m 12 #[.val (.ref a_HierarchicalReferences), .val (.ref t), .val (.ref a_HierarchicalReferences)] [(.ref a_HierarchicalReferences)])) := fun tq kq => G84 tq (by
      refine Jvm.RoadKit.acmp (g := (mkF m 8 #[.val (.ref a_HierarchicalReferences), .val (.ref t), .val (.ref a_HierarchicalReferences)] [(.ref t), (.ref a_HierarchicalReferences)])) X0 hx rfl rfl rfl (pc0 := 8) (pc' := 11) (same := false) rfl (hb hby d3_8) rfl (decide_eq_false fun q => hc85 (Value.ref.inj q)) (by decide) (by decide) ?_
      show Steps p.tables e below (s₁.setTop (mkF m 11 #[.val (.ref a_HierarchicalReferences), .val (.ref t), .val (.ref a_HierarchicalReferences)] [])) _
      refine XS.aloadN X0.here hx rfl (hb hby d3_11) rfl rfl ?_
      show Steps p.tables e below (s₁.setTop (mkF m 12 #[.val (.ref a_HierarchicalReferences), .val (.ref t), .val (.ref a_HierarchicalReferences)] [(.ref a_HierarchicalReferences)])) _
      exact kq)
    obtain ⟨T88, X88, e88, st88⟩ := getF X0 hx hZ hown (host := "") (Or.inl (hw _ (List.mem_of_getElem? (i := 18) rfl))) Via.refl e0 F_a_HierarchicalReferences_supertype (g := (mkF m 12 #[.val (.ref a_HierarchicalReferences), .val (.ref t), .val (.ref a_HierarchicalReferences)] [(.ref a_HierarchicalReferences)])) rfl rfl (hb hby d3_12)
    have G89 : Go p e below A0 (T88.setTop (mkF m 15 #[.val (.ref a_HierarchicalReferences), .val (.ref t), .val (.ref a_HierarchicalReferences)] [(.ref a_References)])) := fun tq kq => G87 tq (st88 _ kq)
    have G90 : Go p e below A0 (T88.setTop (mkF m 8 #[.val (.ref a_HierarchicalReferences), .val (.ref t), .val (.ref a_References)] [(.ref t), (.ref a_References)])) := fun tq kq => G89 tq (by
      refine XS.astoreN X88.here hx rfl (hb hby d3_15) rfl rfl (l' := #[.val (.ref a_HierarchicalReferences), .val (.ref t), .val (.ref a_References)]) rfl ?_
      show Steps p.tables e below (T88.setTop (mkF m 16 #[.val (.ref a_HierarchicalReferences), .val (.ref t), .val (.ref a_References)] [])) _
      refine XS.goto X88.here hx rfl (pc0 := 16) (pc' := 2) rfl (hb hby d3_16) (by decide) (by decide) ?_
      show Steps p.tables e below (T88.setTop (mkF m 2 #[.val (.ref a_HierarchicalReferences), .val (.ref t), .val (.ref a_References)] [])) _
      refine XS.aloadN X88.here hx rfl (hb hby d3_2) rfl rfl ?_
      show Steps p.tables e below (T88.setTop (mkF m 3 #[.val (.ref a_HierarchicalReferences), .val (.ref t), .val (.ref a_References)] [(.ref a_References)])) _
      refine XS.ifnullNo X88.here hx rfl (hb hby d3_3) rfl ?_
      show Steps p.tables e below (T88.setTop (mkF m 6 #[.val (.ref a_HierarchicalReferences), .val (.ref t), .val (.ref a_References)] [])) _
      refine XS.aloadN X88.here hx rfl (hb hby d3_6) rfl rfl ?_
      show Steps p.tables e below (T88.setTop (mkF m 7 #[.val (.ref a_HierarchicalReferences), .val (.ref t), .val (.ref a_References)] [(.ref a_References)])) _
      refine XS.aloadN X88.here hx rfl (hb hby d3_7) rfl rfl ?_
      show Steps p.tables e below (T88.setTop (mkF m 8 #[.val (.ref a_HierarchicalReferences), .val (.ref t), .val (.ref a_References)] [(.ref t), (.ref a_References)])) _
      exact kq)
    by_cases hc91 : a_References = t
    · have G92 : Go p e below A0 (T88.setTop (mkF m 29 #[.val (.ref a_HierarchicalReferences), .val (.ref t), .val (.ref a_References)] [(.int (1 : Int32))])) := fun tq kq => G90 tq (by
        refine Jvm.RoadKit.acmp (g := (mkF m 8 #[.val (.ref a_HierarchicalReferences), .val (.ref t), .val (.ref a_References)] [(.ref t), (.ref a_References)])) X88 hx rfl rfl rfl (pc0 := 8) (pc' := 19) (same := true) rfl (hb hby d3_8) rfl (decide_eq_true (congrArg Value.ref hc91)) (by decide) (by decide) ?_
        show Steps p.tables e below (T88.setTop (mkF m 19 #[.val (.ref a_HierarchicalReferences), .val (.ref t), .val (.ref a_References)] [])) _
        refine XS.aloadN X88.here hx rfl (hb hby d3_19) rfl rfl ?_
        show Steps p.tables e below (T88.setTop (mkF m 20 #[.val (.ref a_HierarchicalReferences), .val (.ref t), .val (.ref a_References)] [(.ref a_References)])) _
        refine XS.aloadN X88.here hx rfl (hb hby d3_20) rfl rfl ?_
        show Steps p.tables e below (T88.setTop (mkF m 21 #[.val (.ref a_HierarchicalReferences), .val (.ref t), .val (.ref a_References)] [(.ref t), (.ref a_References)])) _
        refine Jvm.RoadKit.acmp (g := (mkF m 21 #[.val (.ref a_HierarchicalReferences), .val (.ref t), .val (.ref a_References)] [(.ref t), (.ref a_References)])) X88 hx rfl rfl rfl (pc0 := 21) (pc' := 24) (same := true) rfl (hb hby d3_21) rfl (decide_eq_true (congrArg Value.ref hc91)) (by decide) (by decide) ?_
        show Steps p.tables e below (T88.setTop (mkF m 24 #[.val (.ref a_HierarchicalReferences), .val (.ref t), .val (.ref a_References)] [])) _
        refine XS.iconst X88.here hx rfl (hb hby d3_24) ?_
        show Steps p.tables e below (T88.setTop (mkF m 25 #[.val (.ref a_HierarchicalReferences), .val (.ref t), .val (.ref a_References)] [(.int (1 : Int32))])) _
        refine XS.goto X88.here hx rfl (pc0 := 25) (pc' := 29) rfl (hb hby d3_25) (by decide) (by decide) ?_
        show Steps p.tables e below (T88.setTop (mkF m 29 #[.val (.ref a_HierarchicalReferences), .val (.ref t), .val (.ref a_References)] [(.int (1 : Int32))])) _
        exact kq)
      obtain ⟨fs, hr, hrun, hended, hW, hsame⟩ := X88.leave (v := some (.int (nar .boolean (1 : Int32)))) (fun h => by rw [Bd.returns] at h; cases h)
      refine ⟨_, _, (by rw [← hA0]; exact G92 _ (retN X88 hx (t := .boolean) Bd.returns (by simp) (hb hby d3_29) hr)), hrun, hended, _, _, rfl, ?_, ⟨_, rfl⟩, hW, hsame.mono (by decide) (by decide)⟩
      exact ⟨(by rw [show own_b (a_HierarchicalReferences = t ∨ a_References = t) = (1 : Int32) from by simp [own_b, hc85, hc91]]; rfl), N0, e88⟩
    · have G93 : Go p e below A0 (T88.setTop (mkF m 12 #[.val (.ref a_HierarchicalReferences), .val (.ref t), .val (.ref a_References)] [(.ref a_References)])) := fun tq kq => G90 tq (by
        refine Jvm.RoadKit.acmp (g := (mkF m 8 #[.val (.ref a_HierarchicalReferences), .val (.ref t), .val (.ref a_References)] [(.ref t), (.ref a_References)])) X88 hx rfl rfl rfl (pc0 := 8) (pc' := 11) (same := false) rfl (hb hby d3_8) rfl (decide_eq_false fun q => hc91 (Value.ref.inj q)) (by decide) (by decide) ?_
        show Steps p.tables e below (T88.setTop (mkF m 11 #[.val (.ref a_HierarchicalReferences), .val (.ref t), .val (.ref a_References)] [])) _
        refine XS.aloadN X88.here hx rfl (hb hby d3_11) rfl rfl ?_
        show Steps p.tables e below (T88.setTop (mkF m 12 #[.val (.ref a_HierarchicalReferences), .val (.ref t), .val (.ref a_References)] [(.ref a_References)])) _
        exact kq)
      obtain ⟨T94, X94, e94, st94⟩ := getF X88 hx hZ hown (host := "") (Or.inl (hw _ (List.mem_of_getElem? (i := 18) rfl))) Via.refl e88 F_a_References_supertype (g := (mkF m 12 #[.val (.ref a_HierarchicalReferences), .val (.ref t), .val (.ref a_References)] [(.ref a_References)])) rfl rfl (hb hby d3_12)
      have G95 : Go p e below A0 (T94.setTop (mkF m 15 #[.val (.ref a_HierarchicalReferences), .val (.ref t), .val (.ref a_References)] [.null])) := fun tq kq => G93 tq (st94 _ kq)
      have G96 : Go p e below A0 (T94.setTop (mkF m 29 #[.val (.ref a_HierarchicalReferences), .val (.ref t), .val .null] [(.int (0 : Int32))])) := fun tq kq => G95 tq (by
        refine XS.astoreN X94.here hx rfl (hb hby d3_15) rfl rfl (l' := #[.val (.ref a_HierarchicalReferences), .val (.ref t), .val .null]) rfl ?_
        show Steps p.tables e below (T94.setTop (mkF m 16 #[.val (.ref a_HierarchicalReferences), .val (.ref t), .val .null] [])) _
        refine XS.goto X94.here hx rfl (pc0 := 16) (pc' := 2) rfl (hb hby d3_16) (by decide) (by decide) ?_
        show Steps p.tables e below (T94.setTop (mkF m 2 #[.val (.ref a_HierarchicalReferences), .val (.ref t), .val .null] [])) _
        refine XS.aloadN X94.here hx rfl (hb hby d3_2) rfl rfl ?_
        show Steps p.tables e below (T94.setTop (mkF m 3 #[.val (.ref a_HierarchicalReferences), .val (.ref t), .val .null] [.null])) _
        refine XS.ifnullYes X94.here hx rfl (pc0 := 3) (pc' := 19) rfl (hb hby d3_3) rfl (by decide) (by decide) ?_
        show Steps p.tables e below (T94.setTop (mkF m 19 #[.val (.ref a_HierarchicalReferences), .val (.ref t), .val .null] [])) _
        refine XS.aloadN X94.here hx rfl (hb hby d3_19) rfl rfl ?_
        show Steps p.tables e below (T94.setTop (mkF m 20 #[.val (.ref a_HierarchicalReferences), .val (.ref t), .val .null] [.null])) _
        refine XS.aloadN X94.here hx rfl (hb hby d3_20) rfl rfl ?_
        show Steps p.tables e below (T94.setTop (mkF m 21 #[.val (.ref a_HierarchicalReferences), .val (.ref t), .val .null] [(.ref t), .null])) _
        refine Jvm.RoadKit.acmp (g := (mkF m 21 #[.val (.ref a_HierarchicalReferences), .val (.ref t), .val .null] [(.ref t), .null])) X94 hx rfl rfl rfl (pc0 := 21) (pc' := 28) (same := false) rfl (hb hby d3_21) rfl (decide_eq_false nofun) (by decide) (by decide) ?_
        show Steps p.tables e below (T94.setTop (mkF m 28 #[.val (.ref a_HierarchicalReferences), .val (.ref t), .val .null] [])) _
        refine XS.iconst X94.here hx rfl (hb hby d3_28) ?_
        show Steps p.tables e below (T94.setTop (mkF m 29 #[.val (.ref a_HierarchicalReferences), .val (.ref t), .val .null] [(.int (0 : Int32))])) _
        exact kq)
      obtain ⟨fs, hr, hrun, hended, hW, hsame⟩ := X94.leave (v := some (.int (nar .boolean (0 : Int32)))) (fun h => by rw [Bd.returns] at h; cases h)
      refine ⟨_, _, (by rw [← hA0]; exact G96 _ (retN X94 hx (t := .boolean) Bd.returns (by simp) (hb hby d3_29) hr)), hrun, hended, _, _, rfl, ?_, ⟨_, rfl⟩, hW, hsame.mono (by decide) (by decide)⟩
      exact ⟨(by rw [show own_b (a_HierarchicalReferences = t ∨ a_References = t) = (0 : Int32) from by simp [own_b, hc85, hc91]]; rfl), N0, e94⟩
set_option maxRecDepth 65536 in
set_option maxHeartbeats 40000000 in
theorem rm3_2 (l : Launch) (Z : State) (a0 : Array Value) (hw : ∀ d ∈ tables_1, d.before a0 Z = true) (ws : List Jvm.Cond) (a_HasChild a_HierarchicalReferences a_References t : Addr) (h0 : Heap) (n0 : Nat) (Z0 : n0 ≤ h0.size) (F_a_HasChild_supertype : Fld Z h0 a_HasChild "com/example/halyard/halyard/server/ReferenceType" "supertype" "Lcom/example/halyard/halyard/server/ReferenceType;" (.ref a_HierarchicalReferences)) (F_a_HierarchicalReferences_supertype : Fld Z h0 a_HierarchicalReferences "com/example/halyard/halyard/server/ReferenceType" "supertype" "Lcom/example/halyard/halyard/server/ReferenceType;" (.ref a_References)) (F_a_References_supertype : Fld Z h0 a_References "com/example/halyard/halyard/server/ReferenceType" "supertype" "Lcom/example/halyard/halyard/server/ReferenceType;" .null) :
    MetFree l (⟨"com/example/halyard/halyard/server/ReferenceType", "isSubtypeOf", "(Lcom/example/halyard/halyard/server/ReferenceType;)Z"⟩ : MethodName) (head1 (Jvm.Cond.code (⟨"com/example/halyard/halyard/server/ReferenceType", "isSubtypeOf", "(Lcom/example/halyard/halyard/server/ReferenceType;)Z"⟩ : MethodName) prog_116_method_8_code 3 (some .boolean) :: ws) ({ frames := 0, cells := 0, slots := 0, locals := 0 } : Room)) (fun aa UU => aa = #[(.ref a_HasChild), (.ref t)] ∧ Z.Warmed39 UU.vm ∧ UU.heap = h0) (fun _ _ _ _ _ => True) (fun _ UU oo U' => ∃ v L, oo = .returned v ∧ Qr (.int (own_b (a_HasChild = t ∨ a_HierarchicalReferences = t ∨ a_References = t))) h0 n0 v U'.heap L ∧ FrameEnd UU oo U' L ({ frames := 0, cells := 0, slots := 0, locals := 0 } : Room).cells ({ frames := 0, cells := 0, slots := 0, locals := 0 } : Room).slots) := by
  refine MetFree.of_bodySF (plainFor_of_name pn_1) hisR ?_
  intro p e s m args below meth c s₁ Bd hml0 hP hK
  obtain ⟨rfl, hZ, hh⟩ := hP
  have hx := Bd.exec
  have hby := Bd.bytes
  have hml : c.maxLocals = 3 := hml0
  have hown : s.vm.findClass "com/example/halyard/halyard/server/ReferenceType" = some m.cls := findClass_of_methodNamed Bd.named
  have hnm := (name_of_methodNamed Bd.named Bd.method).1
  have X0 : Stand p l e ({ frames := 0, cells := 0, slots := 0, locals := 0 } : Room) s m #[(.ref a_HasChild), (.ref t)] below meth c s₁ [] 0 0 := Stand.of_body Bd
  have e0 : s₁.heap = h0 := by rw [← hh, Bd.state]; rfl
  have N0 := Fr.nil n0
  obtain ⟨A0, hA0⟩ : ∃ A, A = s₁.setTop (entryFrame m #[(.ref a_HasChild), (.ref t)] 3) := ⟨_, rfl⟩
  have G0 : Go p e below A0 (s₁.setTop (mkF m 0 #[.val (.ref a_HasChild), .val (.ref t), .unset] [])) := fun tq kq => by rw [hA0]; exact castTop (ef_rm3_2 m a_HasChild t) kq
  have G97 : Go p e below A0 (s₁.setTop (mkF m 8 #[.val (.ref a_HasChild), .val (.ref t), .val (.ref a_HasChild)] [(.ref t), (.ref a_HasChild)])) := fun tq kq => G0 tq (by
    refine XS.aloadN X0.here hx rfl (hb hby d3_0) rfl rfl ?_
    show Steps p.tables e below (s₁.setTop (mkF m 1 #[.val (.ref a_HasChild), .val (.ref t), .unset] [(.ref a_HasChild)])) _
    refine XS.astoreN X0.here hx rfl (hb hby d3_1) rfl rfl (l' := #[.val (.ref a_HasChild), .val (.ref t), .val (.ref a_HasChild)]) rfl ?_
    show Steps p.tables e below (s₁.setTop (mkF m 2 #[.val (.ref a_HasChild), .val (.ref t), .val (.ref a_HasChild)] [])) _
    refine XS.aloadN X0.here hx rfl (hb hby d3_2) rfl rfl ?_
    show Steps p.tables e below (s₁.setTop (mkF m 3 #[.val (.ref a_HasChild), .val (.ref t), .val (.ref a_HasChild)] [(.ref a_HasChild)])) _
    refine XS.ifnullNo X0.here hx rfl (hb hby d3_3) rfl ?_
    show Steps p.tables e below (s₁.setTop (mkF m 6 #[.val (.ref a_HasChild), .val (.ref t), .val (.ref a_HasChild)] [])) _
    refine XS.aloadN X0.here hx rfl (hb hby d3_6) rfl rfl ?_
    show Steps p.tables e below (s₁.setTop (mkF m 7 #[.val (.ref a_HasChild), .val (.ref t), .val (.ref a_HasChild)] [(.ref a_HasChild)])) _
    refine XS.aloadN X0.here hx rfl (hb hby d3_7) rfl rfl ?_
    show Steps p.tables e below (s₁.setTop (mkF m 8 #[.val (.ref a_HasChild), .val (.ref t), .val (.ref a_HasChild)] [(.ref t), (.ref a_HasChild)])) _
    exact kq)
  by_cases hc98 : a_HasChild = t
  · have G99 : Go p e below A0 (s₁.setTop (mkF m 29 #[.val (.ref a_HasChild), .val (.ref t), .val (.ref a_HasChild)] [(.int (1 : Int32))])) := fun tq kq => G97 tq (by
      refine Jvm.RoadKit.acmp (g := (mkF m 8 #[.val (.ref a_HasChild), .val (.ref t), .val (.ref a_HasChild)] [(.ref t), (.ref a_HasChild)])) X0 hx rfl rfl rfl (pc0 := 8) (pc' := 19) (same := true) rfl (hb hby d3_8) rfl (decide_eq_true (congrArg Value.ref hc98)) (by decide) (by decide) ?_
      show Steps p.tables e below (s₁.setTop (mkF m 19 #[.val (.ref a_HasChild), .val (.ref t), .val (.ref a_HasChild)] [])) _
      refine XS.aloadN X0.here hx rfl (hb hby d3_19) rfl rfl ?_
      show Steps p.tables e below (s₁.setTop (mkF m 20 #[.val (.ref a_HasChild), .val (.ref t), .val (.ref a_HasChild)] [(.ref a_HasChild)])) _
      refine XS.aloadN X0.here hx rfl (hb hby d3_20) rfl rfl ?_
      show Steps p.tables e below (s₁.setTop (mkF m 21 #[.val (.ref a_HasChild), .val (.ref t), .val (.ref a_HasChild)] [(.ref t), (.ref a_HasChild)])) _
      refine Jvm.RoadKit.acmp (g := (mkF m 21 #[.val (.ref a_HasChild), .val (.ref t), .val (.ref a_HasChild)] [(.ref t), (.ref a_HasChild)])) X0 hx rfl rfl rfl (pc0 := 21) (pc' := 24) (same := true) rfl (hb hby d3_21) rfl (decide_eq_true (congrArg Value.ref hc98)) (by decide) (by decide) ?_
      show Steps p.tables e below (s₁.setTop (mkF m 24 #[.val (.ref a_HasChild), .val (.ref t), .val (.ref a_HasChild)] [])) _
      refine XS.iconst X0.here hx rfl (hb hby d3_24) ?_
      show Steps p.tables e below (s₁.setTop (mkF m 25 #[.val (.ref a_HasChild), .val (.ref t), .val (.ref a_HasChild)] [(.int (1 : Int32))])) _
      refine XS.goto X0.here hx rfl (pc0 := 25) (pc' := 29) rfl (hb hby d3_25) (by decide) (by decide) ?_
      show Steps p.tables e below (s₁.setTop (mkF m 29 #[.val (.ref a_HasChild), .val (.ref t), .val (.ref a_HasChild)] [(.int (1 : Int32))])) _
      exact kq)
    obtain ⟨fs, hr, hrun, hended, hW, hsame⟩ := X0.leave (v := some (.int (nar .boolean (1 : Int32)))) (fun h => by rw [Bd.returns] at h; cases h)
    refine ⟨_, _, (by rw [← hA0]; exact G99 _ (retN X0 hx (t := .boolean) Bd.returns (by simp) (hb hby d3_29) hr)), hrun, hended, _, _, rfl, ?_, ⟨_, rfl⟩, hW, hsame.mono (by decide) (by decide)⟩
    exact ⟨(by rw [show own_b (a_HasChild = t ∨ a_HierarchicalReferences = t ∨ a_References = t) = (1 : Int32) from by simp [own_b, hc98]]; rfl), N0, e0⟩
  · have G100 : Go p e below A0 (s₁.setTop (mkF m 12 #[.val (.ref a_HasChild), .val (.ref t), .val (.ref a_HasChild)] [(.ref a_HasChild)])) := fun tq kq => G97 tq (by
      refine Jvm.RoadKit.acmp (g := (mkF m 8 #[.val (.ref a_HasChild), .val (.ref t), .val (.ref a_HasChild)] [(.ref t), (.ref a_HasChild)])) X0 hx rfl rfl rfl (pc0 := 8) (pc' := 11) (same := false) rfl (hb hby d3_8) rfl (decide_eq_false fun q => hc98 (Value.ref.inj q)) (by decide) (by decide) ?_
      show Steps p.tables e below (s₁.setTop (mkF m 11 #[.val (.ref a_HasChild), .val (.ref t), .val (.ref a_HasChild)] [])) _
      refine XS.aloadN X0.here hx rfl (hb hby d3_11) rfl rfl ?_
      show Steps p.tables e below (s₁.setTop (mkF m 12 #[.val (.ref a_HasChild), .val (.ref t), .val (.ref a_HasChild)] [(.ref a_HasChild)])) _
      exact kq)
    obtain ⟨T101, X101, e101, st101⟩ := getF X0 hx hZ hown (host := "") (Or.inl (hw _ (List.mem_of_getElem? (i := 18) rfl))) Via.refl e0 F_a_HasChild_supertype (g := (mkF m 12 #[.val (.ref a_HasChild), .val (.ref t), .val (.ref a_HasChild)] [(.ref a_HasChild)])) rfl rfl (hb hby d3_12)
    have G102 : Go p e below A0 (T101.setTop (mkF m 15 #[.val (.ref a_HasChild), .val (.ref t), .val (.ref a_HasChild)] [(.ref a_HierarchicalReferences)])) := fun tq kq => G100 tq (st101 _ kq)
    have G103 : Go p e below A0 (T101.setTop (mkF m 8 #[.val (.ref a_HasChild), .val (.ref t), .val (.ref a_HierarchicalReferences)] [(.ref t), (.ref a_HierarchicalReferences)])) := fun tq kq => G102 tq (by
      refine XS.astoreN X101.here hx rfl (hb hby d3_15) rfl rfl (l' := #[.val (.ref a_HasChild), .val (.ref t), .val (.ref a_HierarchicalReferences)]) rfl ?_
      show Steps p.tables e below (T101.setTop (mkF m 16 #[.val (.ref a_HasChild), .val (.ref t), .val (.ref a_HierarchicalReferences)] [])) _
      refine XS.goto X101.here hx rfl (pc0 := 16) (pc' := 2) rfl (hb hby d3_16) (by decide) (by decide) ?_
      show Steps p.tables e below (T101.setTop (mkF m 2 #[.val (.ref a_HasChild), .val (.ref t), .val (.ref a_HierarchicalReferences)] [])) _
      refine XS.aloadN X101.here hx rfl (hb hby d3_2) rfl rfl ?_
      show Steps p.tables e below (T101.setTop (mkF m 3 #[.val (.ref a_HasChild), .val (.ref t), .val (.ref a_HierarchicalReferences)] [(.ref a_HierarchicalReferences)])) _
      refine XS.ifnullNo X101.here hx rfl (hb hby d3_3) rfl ?_
      show Steps p.tables e below (T101.setTop (mkF m 6 #[.val (.ref a_HasChild), .val (.ref t), .val (.ref a_HierarchicalReferences)] [])) _
      refine XS.aloadN X101.here hx rfl (hb hby d3_6) rfl rfl ?_
      show Steps p.tables e below (T101.setTop (mkF m 7 #[.val (.ref a_HasChild), .val (.ref t), .val (.ref a_HierarchicalReferences)] [(.ref a_HierarchicalReferences)])) _
      refine XS.aloadN X101.here hx rfl (hb hby d3_7) rfl rfl ?_
      show Steps p.tables e below (T101.setTop (mkF m 8 #[.val (.ref a_HasChild), .val (.ref t), .val (.ref a_HierarchicalReferences)] [(.ref t), (.ref a_HierarchicalReferences)])) _
      exact kq)
    by_cases hc104 : a_HierarchicalReferences = t
    · have G105 : Go p e below A0 (T101.setTop (mkF m 29 #[.val (.ref a_HasChild), .val (.ref t), .val (.ref a_HierarchicalReferences)] [(.int (1 : Int32))])) := fun tq kq => G103 tq (by
        refine Jvm.RoadKit.acmp (g := (mkF m 8 #[.val (.ref a_HasChild), .val (.ref t), .val (.ref a_HierarchicalReferences)] [(.ref t), (.ref a_HierarchicalReferences)])) X101 hx rfl rfl rfl (pc0 := 8) (pc' := 19) (same := true) rfl (hb hby d3_8) rfl (decide_eq_true (congrArg Value.ref hc104)) (by decide) (by decide) ?_
        show Steps p.tables e below (T101.setTop (mkF m 19 #[.val (.ref a_HasChild), .val (.ref t), .val (.ref a_HierarchicalReferences)] [])) _
        refine XS.aloadN X101.here hx rfl (hb hby d3_19) rfl rfl ?_
        show Steps p.tables e below (T101.setTop (mkF m 20 #[.val (.ref a_HasChild), .val (.ref t), .val (.ref a_HierarchicalReferences)] [(.ref a_HierarchicalReferences)])) _
        refine XS.aloadN X101.here hx rfl (hb hby d3_20) rfl rfl ?_
        show Steps p.tables e below (T101.setTop (mkF m 21 #[.val (.ref a_HasChild), .val (.ref t), .val (.ref a_HierarchicalReferences)] [(.ref t), (.ref a_HierarchicalReferences)])) _
        refine Jvm.RoadKit.acmp (g := (mkF m 21 #[.val (.ref a_HasChild), .val (.ref t), .val (.ref a_HierarchicalReferences)] [(.ref t), (.ref a_HierarchicalReferences)])) X101 hx rfl rfl rfl (pc0 := 21) (pc' := 24) (same := true) rfl (hb hby d3_21) rfl (decide_eq_true (congrArg Value.ref hc104)) (by decide) (by decide) ?_
        show Steps p.tables e below (T101.setTop (mkF m 24 #[.val (.ref a_HasChild), .val (.ref t), .val (.ref a_HierarchicalReferences)] [])) _
        refine XS.iconst X101.here hx rfl (hb hby d3_24) ?_
        show Steps p.tables e below (T101.setTop (mkF m 25 #[.val (.ref a_HasChild), .val (.ref t), .val (.ref a_HierarchicalReferences)] [(.int (1 : Int32))])) _
        refine XS.goto X101.here hx rfl (pc0 := 25) (pc' := 29) rfl (hb hby d3_25) (by decide) (by decide) ?_
        show Steps p.tables e below (T101.setTop (mkF m 29 #[.val (.ref a_HasChild), .val (.ref t), .val (.ref a_HierarchicalReferences)] [(.int (1 : Int32))])) _
        exact kq)
      obtain ⟨fs, hr, hrun, hended, hW, hsame⟩ := X101.leave (v := some (.int (nar .boolean (1 : Int32)))) (fun h => by rw [Bd.returns] at h; cases h)
      refine ⟨_, _, (by rw [← hA0]; exact G105 _ (retN X101 hx (t := .boolean) Bd.returns (by simp) (hb hby d3_29) hr)), hrun, hended, _, _, rfl, ?_, ⟨_, rfl⟩, hW, hsame.mono (by decide) (by decide)⟩
      exact ⟨(by rw [show own_b (a_HasChild = t ∨ a_HierarchicalReferences = t ∨ a_References = t) = (1 : Int32) from by simp [own_b, hc98, hc104]]; rfl), N0, e101⟩
    · have G106 : Go p e below A0 (T101.setTop (mkF m 12 #[.val (.ref a_HasChild), .val (.ref t), .val (.ref a_HierarchicalReferences)] [(.ref a_HierarchicalReferences)])) := fun tq kq => G103 tq (by
        refine Jvm.RoadKit.acmp (g := (mkF m 8 #[.val (.ref a_HasChild), .val (.ref t), .val (.ref a_HierarchicalReferences)] [(.ref t), (.ref a_HierarchicalReferences)])) X101 hx rfl rfl rfl (pc0 := 8) (pc' := 11) (same := false) rfl (hb hby d3_8) rfl (decide_eq_false fun q => hc104 (Value.ref.inj q)) (by decide) (by decide) ?_
        show Steps p.tables e below (T101.setTop (mkF m 11 #[.val (.ref a_HasChild), .val (.ref t), .val (.ref a_HierarchicalReferences)] [])) _
        refine XS.aloadN X101.here hx rfl (hb hby d3_11) rfl rfl ?_
        show Steps p.tables e below (T101.setTop (mkF m 12 #[.val (.ref a_HasChild), .val (.ref t), .val (.ref a_HierarchicalReferences)] [(.ref a_HierarchicalReferences)])) _
        exact kq)
      obtain ⟨T107, X107, e107, st107⟩ := getF X101 hx hZ hown (host := "") (Or.inl (hw _ (List.mem_of_getElem? (i := 18) rfl))) Via.refl e101 F_a_HierarchicalReferences_supertype (g := (mkF m 12 #[.val (.ref a_HasChild), .val (.ref t), .val (.ref a_HierarchicalReferences)] [(.ref a_HierarchicalReferences)])) rfl rfl (hb hby d3_12)
      have G108 : Go p e below A0 (T107.setTop (mkF m 15 #[.val (.ref a_HasChild), .val (.ref t), .val (.ref a_HierarchicalReferences)] [(.ref a_References)])) := fun tq kq => G106 tq (st107 _ kq)
      have G109 : Go p e below A0 (T107.setTop (mkF m 8 #[.val (.ref a_HasChild), .val (.ref t), .val (.ref a_References)] [(.ref t), (.ref a_References)])) := fun tq kq => G108 tq (by
        refine XS.astoreN X107.here hx rfl (hb hby d3_15) rfl rfl (l' := #[.val (.ref a_HasChild), .val (.ref t), .val (.ref a_References)]) rfl ?_
        show Steps p.tables e below (T107.setTop (mkF m 16 #[.val (.ref a_HasChild), .val (.ref t), .val (.ref a_References)] [])) _
        refine XS.goto X107.here hx rfl (pc0 := 16) (pc' := 2) rfl (hb hby d3_16) (by decide) (by decide) ?_
        show Steps p.tables e below (T107.setTop (mkF m 2 #[.val (.ref a_HasChild), .val (.ref t), .val (.ref a_References)] [])) _
        refine XS.aloadN X107.here hx rfl (hb hby d3_2) rfl rfl ?_
        show Steps p.tables e below (T107.setTop (mkF m 3 #[.val (.ref a_HasChild), .val (.ref t), .val (.ref a_References)] [(.ref a_References)])) _
        refine XS.ifnullNo X107.here hx rfl (hb hby d3_3) rfl ?_
        show Steps p.tables e below (T107.setTop (mkF m 6 #[.val (.ref a_HasChild), .val (.ref t), .val (.ref a_References)] [])) _
        refine XS.aloadN X107.here hx rfl (hb hby d3_6) rfl rfl ?_
        show Steps p.tables e below (T107.setTop (mkF m 7 #[.val (.ref a_HasChild), .val (.ref t), .val (.ref a_References)] [(.ref a_References)])) _
        refine XS.aloadN X107.here hx rfl (hb hby d3_7) rfl rfl ?_
        show Steps p.tables e below (T107.setTop (mkF m 8 #[.val (.ref a_HasChild), .val (.ref t), .val (.ref a_References)] [(.ref t), (.ref a_References)])) _
        exact kq)
      by_cases hc110 : a_References = t
      · have G111 : Go p e below A0 (T107.setTop (mkF m 29 #[.val (.ref a_HasChild), .val (.ref t), .val (.ref a_References)] [(.int (1 : Int32))])) := fun tq kq => G109 tq (by
          refine Jvm.RoadKit.acmp (g := (mkF m 8 #[.val (.ref a_HasChild), .val (.ref t), .val (.ref a_References)] [(.ref t), (.ref a_References)])) X107 hx rfl rfl rfl (pc0 := 8) (pc' := 19) (same := true) rfl (hb hby d3_8) rfl (decide_eq_true (congrArg Value.ref hc110)) (by decide) (by decide) ?_
          show Steps p.tables e below (T107.setTop (mkF m 19 #[.val (.ref a_HasChild), .val (.ref t), .val (.ref a_References)] [])) _
          refine XS.aloadN X107.here hx rfl (hb hby d3_19) rfl rfl ?_
          show Steps p.tables e below (T107.setTop (mkF m 20 #[.val (.ref a_HasChild), .val (.ref t), .val (.ref a_References)] [(.ref a_References)])) _
          refine XS.aloadN X107.here hx rfl (hb hby d3_20) rfl rfl ?_
          show Steps p.tables e below (T107.setTop (mkF m 21 #[.val (.ref a_HasChild), .val (.ref t), .val (.ref a_References)] [(.ref t), (.ref a_References)])) _
          refine Jvm.RoadKit.acmp (g := (mkF m 21 #[.val (.ref a_HasChild), .val (.ref t), .val (.ref a_References)] [(.ref t), (.ref a_References)])) X107 hx rfl rfl rfl (pc0 := 21) (pc' := 24) (same := true) rfl (hb hby d3_21) rfl (decide_eq_true (congrArg Value.ref hc110)) (by decide) (by decide) ?_
          show Steps p.tables e below (T107.setTop (mkF m 24 #[.val (.ref a_HasChild), .val (.ref t), .val (.ref a_References)] [])) _
          refine XS.iconst X107.here hx rfl (hb hby d3_24) ?_
          show Steps p.tables e below (T107.setTop (mkF m 25 #[.val (.ref a_HasChild), .val (.ref t), .val (.ref a_References)] [(.int (1 : Int32))])) _
          refine XS.goto X107.here hx rfl (pc0 := 25) (pc' := 29) rfl (hb hby d3_25) (by decide) (by decide) ?_
          show Steps p.tables e below (T107.setTop (mkF m 29 #[.val (.ref a_HasChild), .val (.ref t), .val (.ref a_References)] [(.int (1 : Int32))])) _
          exact kq)
        obtain ⟨fs, hr, hrun, hended, hW, hsame⟩ := X107.leave (v := some (.int (nar .boolean (1 : Int32)))) (fun h => by rw [Bd.returns] at h; cases h)
        refine ⟨_, _, (by rw [← hA0]; exact G111 _ (retN X107 hx (t := .boolean) Bd.returns (by simp) (hb hby d3_29) hr)), hrun, hended, _, _, rfl, ?_, ⟨_, rfl⟩, hW, hsame.mono (by decide) (by decide)⟩
        exact ⟨(by rw [show own_b (a_HasChild = t ∨ a_HierarchicalReferences = t ∨ a_References = t) = (1 : Int32) from by simp [own_b, hc98, hc104, hc110]]; rfl), N0, e107⟩
      · have G112 : Go p e below A0 (T107.setTop (mkF m 12 #[.val (.ref a_HasChild), .val (.ref t), .val (.ref a_References)] [(.ref a_References)])) := fun tq kq => G109 tq (by
          refine Jvm.RoadKit.acmp (g := (mkF m 8 #[.val (.ref a_HasChild), .val (.ref t), .val (.ref a_References)] [(.ref t), (.ref a_References)])) X107 hx rfl rfl rfl (pc0 := 8) (pc' := 11) (same := false) rfl (hb hby d3_8) rfl (decide_eq_false fun q => hc110 (Value.ref.inj q)) (by decide) (by decide) ?_
          show Steps p.tables e below (T107.setTop (mkF m 11 #[.val (.ref a_HasChild), .val (.ref t), .val (.ref a_References)] [])) _
          refine XS.aloadN X107.here hx rfl (hb hby d3_11) rfl rfl ?_
          show Steps p.tables e below (T107.setTop (mkF m 12 #[.val (.ref a_HasChild), .val (.ref t), .val (.ref a_References)] [(.ref a_References)])) _
          exact kq)
        obtain ⟨T113, X113, e113, st113⟩ := getF X107 hx hZ hown (host := "") (Or.inl (hw _ (List.mem_of_getElem? (i := 18) rfl))) Via.refl e107 F_a_References_supertype (g := (mkF m 12 #[.val (.ref a_HasChild), .val (.ref t), .val (.ref a_References)] [(.ref a_References)])) rfl rfl (hb hby d3_12)
        have G114 : Go p e below A0 (T113.setTop (mkF m 15 #[.val (.ref a_HasChild), .val (.ref t), .val (.ref a_References)] [.null])) := fun tq kq => G112 tq (st113 _ kq)
        have G115 : Go p e below A0 (T113.setTop (mkF m 29 #[.val (.ref a_HasChild), .val (.ref t), .val .null] [(.int (0 : Int32))])) := fun tq kq => G114 tq (by
          refine XS.astoreN X113.here hx rfl (hb hby d3_15) rfl rfl (l' := #[.val (.ref a_HasChild), .val (.ref t), .val .null]) rfl ?_
          show Steps p.tables e below (T113.setTop (mkF m 16 #[.val (.ref a_HasChild), .val (.ref t), .val .null] [])) _
          refine XS.goto X113.here hx rfl (pc0 := 16) (pc' := 2) rfl (hb hby d3_16) (by decide) (by decide) ?_
          show Steps p.tables e below (T113.setTop (mkF m 2 #[.val (.ref a_HasChild), .val (.ref t), .val .null] [])) _
          refine XS.aloadN X113.here hx rfl (hb hby d3_2) rfl rfl ?_
          show Steps p.tables e below (T113.setTop (mkF m 3 #[.val (.ref a_HasChild), .val (.ref t), .val .null] [.null])) _
          refine XS.ifnullYes X113.here hx rfl (pc0 := 3) (pc' := 19) rfl (hb hby d3_3) rfl (by decide) (by decide) ?_
          show Steps p.tables e below (T113.setTop (mkF m 19 #[.val (.ref a_HasChild), .val (.ref t), .val .null] [])) _
          refine XS.aloadN X113.here hx rfl (hb hby d3_19) rfl rfl ?_
          show Steps p.tables e below (T113.setTop (mkF m 20 #[.val (.ref a_HasChild), .val (.ref t), .val .null] [.null])) _
          refine XS.aloadN X113.here hx rfl (hb hby d3_20) rfl rfl ?_
          show Steps p.tables e below (T113.setTop (mkF m 21 #[.val (.ref a_HasChild), .val (.ref t), .val .null] [(.ref t), .null])) _
          refine Jvm.RoadKit.acmp (g := (mkF m 21 #[.val (.ref a_HasChild), .val (.ref t), .val .null] [(.ref t), .null])) X113 hx rfl rfl rfl (pc0 := 21) (pc' := 28) (same := false) rfl (hb hby d3_21) rfl (decide_eq_false nofun) (by decide) (by decide) ?_
          show Steps p.tables e below (T113.setTop (mkF m 28 #[.val (.ref a_HasChild), .val (.ref t), .val .null] [])) _
          refine XS.iconst X113.here hx rfl (hb hby d3_28) ?_
          show Steps p.tables e below (T113.setTop (mkF m 29 #[.val (.ref a_HasChild), .val (.ref t), .val .null] [(.int (0 : Int32))])) _
          exact kq)
        obtain ⟨fs, hr, hrun, hended, hW, hsame⟩ := X113.leave (v := some (.int (nar .boolean (0 : Int32)))) (fun h => by rw [Bd.returns] at h; cases h)
        refine ⟨_, _, (by rw [← hA0]; exact G115 _ (retN X113 hx (t := .boolean) Bd.returns (by simp) (hb hby d3_29) hr)), hrun, hended, _, _, rfl, ?_, ⟨_, rfl⟩, hW, hsame.mono (by decide) (by decide)⟩
        exact ⟨(by rw [show own_b (a_HasChild = t ∨ a_HierarchicalReferences = t ∨ a_References = t) = (0 : Int32) from by simp [own_b, hc98, hc104, hc110]]; rfl), N0, e113⟩
set_option maxRecDepth 65536 in
set_option maxHeartbeats 40000000 in
theorem rm3_3 (l : Launch) (Z : State) (a0 : Array Value) (hw : ∀ d ∈ tables_1, d.before a0 Z = true) (ws : List Jvm.Cond) (a_Organizes a_HierarchicalReferences a_References t : Addr) (h0 : Heap) (n0 : Nat) (Z0 : n0 ≤ h0.size) (F_a_Organizes_supertype : Fld Z h0 a_Organizes "com/example/halyard/halyard/server/ReferenceType" "supertype" "Lcom/example/halyard/halyard/server/ReferenceType;" (.ref a_HierarchicalReferences)) (F_a_HierarchicalReferences_supertype : Fld Z h0 a_HierarchicalReferences "com/example/halyard/halyard/server/ReferenceType" "supertype" "Lcom/example/halyard/halyard/server/ReferenceType;" (.ref a_References)) (F_a_References_supertype : Fld Z h0 a_References "com/example/halyard/halyard/server/ReferenceType" "supertype" "Lcom/example/halyard/halyard/server/ReferenceType;" .null) :
    MetFree l (⟨"com/example/halyard/halyard/server/ReferenceType", "isSubtypeOf", "(Lcom/example/halyard/halyard/server/ReferenceType;)Z"⟩ : MethodName) (head1 (Jvm.Cond.code (⟨"com/example/halyard/halyard/server/ReferenceType", "isSubtypeOf", "(Lcom/example/halyard/halyard/server/ReferenceType;)Z"⟩ : MethodName) prog_116_method_8_code 3 (some .boolean) :: ws) ({ frames := 0, cells := 0, slots := 0, locals := 0 } : Room)) (fun aa UU => aa = #[(.ref a_Organizes), (.ref t)] ∧ Z.Warmed39 UU.vm ∧ UU.heap = h0) (fun _ _ _ _ _ => True) (fun _ UU oo U' => ∃ v L, oo = .returned v ∧ Qr (.int (own_b (a_Organizes = t ∨ a_HierarchicalReferences = t ∨ a_References = t))) h0 n0 v U'.heap L ∧ FrameEnd UU oo U' L ({ frames := 0, cells := 0, slots := 0, locals := 0 } : Room).cells ({ frames := 0, cells := 0, slots := 0, locals := 0 } : Room).slots) := by
  refine MetFree.of_bodySF (plainFor_of_name pn_1) hisR ?_
  intro p e s m args below meth c s₁ Bd hml0 hP hK
  obtain ⟨rfl, hZ, hh⟩ := hP
  have hx := Bd.exec
  have hby := Bd.bytes
  have hml : c.maxLocals = 3 := hml0
  have hown : s.vm.findClass "com/example/halyard/halyard/server/ReferenceType" = some m.cls := findClass_of_methodNamed Bd.named
  have hnm := (name_of_methodNamed Bd.named Bd.method).1
  have X0 : Stand p l e ({ frames := 0, cells := 0, slots := 0, locals := 0 } : Room) s m #[(.ref a_Organizes), (.ref t)] below meth c s₁ [] 0 0 := Stand.of_body Bd
  have e0 : s₁.heap = h0 := by rw [← hh, Bd.state]; rfl
  have N0 := Fr.nil n0
  obtain ⟨A0, hA0⟩ : ∃ A, A = s₁.setTop (entryFrame m #[(.ref a_Organizes), (.ref t)] 3) := ⟨_, rfl⟩
  have G0 : Go p e below A0 (s₁.setTop (mkF m 0 #[.val (.ref a_Organizes), .val (.ref t), .unset] [])) := fun tq kq => by rw [hA0]; exact castTop (ef_rm3_3 m a_Organizes t) kq
  have G116 : Go p e below A0 (s₁.setTop (mkF m 8 #[.val (.ref a_Organizes), .val (.ref t), .val (.ref a_Organizes)] [(.ref t), (.ref a_Organizes)])) := fun tq kq => G0 tq (by
    refine XS.aloadN X0.here hx rfl (hb hby d3_0) rfl rfl ?_
    show Steps p.tables e below (s₁.setTop (mkF m 1 #[.val (.ref a_Organizes), .val (.ref t), .unset] [(.ref a_Organizes)])) _
    refine XS.astoreN X0.here hx rfl (hb hby d3_1) rfl rfl (l' := #[.val (.ref a_Organizes), .val (.ref t), .val (.ref a_Organizes)]) rfl ?_
    show Steps p.tables e below (s₁.setTop (mkF m 2 #[.val (.ref a_Organizes), .val (.ref t), .val (.ref a_Organizes)] [])) _
    refine XS.aloadN X0.here hx rfl (hb hby d3_2) rfl rfl ?_
    show Steps p.tables e below (s₁.setTop (mkF m 3 #[.val (.ref a_Organizes), .val (.ref t), .val (.ref a_Organizes)] [(.ref a_Organizes)])) _
    refine XS.ifnullNo X0.here hx rfl (hb hby d3_3) rfl ?_
    show Steps p.tables e below (s₁.setTop (mkF m 6 #[.val (.ref a_Organizes), .val (.ref t), .val (.ref a_Organizes)] [])) _
    refine XS.aloadN X0.here hx rfl (hb hby d3_6) rfl rfl ?_
    show Steps p.tables e below (s₁.setTop (mkF m 7 #[.val (.ref a_Organizes), .val (.ref t), .val (.ref a_Organizes)] [(.ref a_Organizes)])) _
    refine XS.aloadN X0.here hx rfl (hb hby d3_7) rfl rfl ?_
    show Steps p.tables e below (s₁.setTop (mkF m 8 #[.val (.ref a_Organizes), .val (.ref t), .val (.ref a_Organizes)] [(.ref t), (.ref a_Organizes)])) _
    exact kq)
  by_cases hc117 : a_Organizes = t
  · have G118 : Go p e below A0 (s₁.setTop (mkF m 29 #[.val (.ref a_Organizes), .val (.ref t), .val (.ref a_Organizes)] [(.int (1 : Int32))])) := fun tq kq => G116 tq (by
      refine Jvm.RoadKit.acmp (g := (mkF m 8 #[.val (.ref a_Organizes), .val (.ref t), .val (.ref a_Organizes)] [(.ref t), (.ref a_Organizes)])) X0 hx rfl rfl rfl (pc0 := 8) (pc' := 19) (same := true) rfl (hb hby d3_8) rfl (decide_eq_true (congrArg Value.ref hc117)) (by decide) (by decide) ?_
      show Steps p.tables e below (s₁.setTop (mkF m 19 #[.val (.ref a_Organizes), .val (.ref t), .val (.ref a_Organizes)] [])) _
      refine XS.aloadN X0.here hx rfl (hb hby d3_19) rfl rfl ?_
      show Steps p.tables e below (s₁.setTop (mkF m 20 #[.val (.ref a_Organizes), .val (.ref t), .val (.ref a_Organizes)] [(.ref a_Organizes)])) _
      refine XS.aloadN X0.here hx rfl (hb hby d3_20) rfl rfl ?_
      show Steps p.tables e below (s₁.setTop (mkF m 21 #[.val (.ref a_Organizes), .val (.ref t), .val (.ref a_Organizes)] [(.ref t), (.ref a_Organizes)])) _
      refine Jvm.RoadKit.acmp (g := (mkF m 21 #[.val (.ref a_Organizes), .val (.ref t), .val (.ref a_Organizes)] [(.ref t), (.ref a_Organizes)])) X0 hx rfl rfl rfl (pc0 := 21) (pc' := 24) (same := true) rfl (hb hby d3_21) rfl (decide_eq_true (congrArg Value.ref hc117)) (by decide) (by decide) ?_
      show Steps p.tables e below (s₁.setTop (mkF m 24 #[.val (.ref a_Organizes), .val (.ref t), .val (.ref a_Organizes)] [])) _
      refine XS.iconst X0.here hx rfl (hb hby d3_24) ?_
      show Steps p.tables e below (s₁.setTop (mkF m 25 #[.val (.ref a_Organizes), .val (.ref t), .val (.ref a_Organizes)] [(.int (1 : Int32))])) _
      refine XS.goto X0.here hx rfl (pc0 := 25) (pc' := 29) rfl (hb hby d3_25) (by decide) (by decide) ?_
      show Steps p.tables e below (s₁.setTop (mkF m 29 #[.val (.ref a_Organizes), .val (.ref t), .val (.ref a_Organizes)] [(.int (1 : Int32))])) _
      exact kq)
    obtain ⟨fs, hr, hrun, hended, hW, hsame⟩ := X0.leave (v := some (.int (nar .boolean (1 : Int32)))) (fun h => by rw [Bd.returns] at h; cases h)
    refine ⟨_, _, (by rw [← hA0]; exact G118 _ (retN X0 hx (t := .boolean) Bd.returns (by simp) (hb hby d3_29) hr)), hrun, hended, _, _, rfl, ?_, ⟨_, rfl⟩, hW, hsame.mono (by decide) (by decide)⟩
    exact ⟨(by rw [show own_b (a_Organizes = t ∨ a_HierarchicalReferences = t ∨ a_References = t) = (1 : Int32) from by simp [own_b, hc117]]; rfl), N0, e0⟩
  · have G119 : Go p e below A0 (s₁.setTop (mkF m 12 #[.val (.ref a_Organizes), .val (.ref t), .val (.ref a_Organizes)] [(.ref a_Organizes)])) := fun tq kq => G116 tq (by
      refine Jvm.RoadKit.acmp (g := (mkF m 8 #[.val (.ref a_Organizes), .val (.ref t), .val (.ref a_Organizes)] [(.ref t), (.ref a_Organizes)])) X0 hx rfl rfl rfl (pc0 := 8) (pc' := 11) (same := false) rfl (hb hby d3_8) rfl (decide_eq_false fun q => hc117 (Value.ref.inj q)) (by decide) (by decide) ?_
      show Steps p.tables e below (s₁.setTop (mkF m 11 #[.val (.ref a_Organizes), .val (.ref t), .val (.ref a_Organizes)] [])) _
      refine XS.aloadN X0.here hx rfl (hb hby d3_11) rfl rfl ?_
      show Steps p.tables e below (s₁.setTop (mkF m 12 #[.val (.ref a_Organizes), .val (.ref t), .val (.ref a_Organizes)] [(.ref a_Organizes)])) _
      exact kq)
    obtain ⟨T120, X120, e120, st120⟩ := getF X0 hx hZ hown (host := "") (Or.inl (hw _ (List.mem_of_getElem? (i := 18) rfl))) Via.refl e0 F_a_Organizes_supertype (g := (mkF m 12 #[.val (.ref a_Organizes), .val (.ref t), .val (.ref a_Organizes)] [(.ref a_Organizes)])) rfl rfl (hb hby d3_12)
    have G121 : Go p e below A0 (T120.setTop (mkF m 15 #[.val (.ref a_Organizes), .val (.ref t), .val (.ref a_Organizes)] [(.ref a_HierarchicalReferences)])) := fun tq kq => G119 tq (st120 _ kq)
    have G122 : Go p e below A0 (T120.setTop (mkF m 8 #[.val (.ref a_Organizes), .val (.ref t), .val (.ref a_HierarchicalReferences)] [(.ref t), (.ref a_HierarchicalReferences)])) := fun tq kq => G121 tq (by
      refine XS.astoreN X120.here hx rfl (hb hby d3_15) rfl rfl (l' := #[.val (.ref a_Organizes), .val (.ref t), .val (.ref a_HierarchicalReferences)]) rfl ?_
      show Steps p.tables e below (T120.setTop (mkF m 16 #[.val (.ref a_Organizes), .val (.ref t), .val (.ref a_HierarchicalReferences)] [])) _
      refine XS.goto X120.here hx rfl (pc0 := 16) (pc' := 2) rfl (hb hby d3_16) (by decide) (by decide) ?_
      show Steps p.tables e below (T120.setTop (mkF m 2 #[.val (.ref a_Organizes), .val (.ref t), .val (.ref a_HierarchicalReferences)] [])) _
      refine XS.aloadN X120.here hx rfl (hb hby d3_2) rfl rfl ?_
      show Steps p.tables e below (T120.setTop (mkF m 3 #[.val (.ref a_Organizes), .val (.ref t), .val (.ref a_HierarchicalReferences)] [(.ref a_HierarchicalReferences)])) _
      refine XS.ifnullNo X120.here hx rfl (hb hby d3_3) rfl ?_
      show Steps p.tables e below (T120.setTop (mkF m 6 #[.val (.ref a_Organizes), .val (.ref t), .val (.ref a_HierarchicalReferences)] [])) _
      refine XS.aloadN X120.here hx rfl (hb hby d3_6) rfl rfl ?_
      show Steps p.tables e below (T120.setTop (mkF m 7 #[.val (.ref a_Organizes), .val (.ref t), .val (.ref a_HierarchicalReferences)] [(.ref a_HierarchicalReferences)])) _
      refine XS.aloadN X120.here hx rfl (hb hby d3_7) rfl rfl ?_
      show Steps p.tables e below (T120.setTop (mkF m 8 #[.val (.ref a_Organizes), .val (.ref t), .val (.ref a_HierarchicalReferences)] [(.ref t), (.ref a_HierarchicalReferences)])) _
      exact kq)
    by_cases hc123 : a_HierarchicalReferences = t
    · have G124 : Go p e below A0 (T120.setTop (mkF m 29 #[.val (.ref a_Organizes), .val (.ref t), .val (.ref a_HierarchicalReferences)] [(.int (1 : Int32))])) := fun tq kq => G122 tq (by
        refine Jvm.RoadKit.acmp (g := (mkF m 8 #[.val (.ref a_Organizes), .val (.ref t), .val (.ref a_HierarchicalReferences)] [(.ref t), (.ref a_HierarchicalReferences)])) X120 hx rfl rfl rfl (pc0 := 8) (pc' := 19) (same := true) rfl (hb hby d3_8) rfl (decide_eq_true (congrArg Value.ref hc123)) (by decide) (by decide) ?_
        show Steps p.tables e below (T120.setTop (mkF m 19 #[.val (.ref a_Organizes), .val (.ref t), .val (.ref a_HierarchicalReferences)] [])) _
        refine XS.aloadN X120.here hx rfl (hb hby d3_19) rfl rfl ?_
        show Steps p.tables e below (T120.setTop (mkF m 20 #[.val (.ref a_Organizes), .val (.ref t), .val (.ref a_HierarchicalReferences)] [(.ref a_HierarchicalReferences)])) _
        refine XS.aloadN X120.here hx rfl (hb hby d3_20) rfl rfl ?_
        show Steps p.tables e below (T120.setTop (mkF m 21 #[.val (.ref a_Organizes), .val (.ref t), .val (.ref a_HierarchicalReferences)] [(.ref t), (.ref a_HierarchicalReferences)])) _
        refine Jvm.RoadKit.acmp (g := (mkF m 21 #[.val (.ref a_Organizes), .val (.ref t), .val (.ref a_HierarchicalReferences)] [(.ref t), (.ref a_HierarchicalReferences)])) X120 hx rfl rfl rfl (pc0 := 21) (pc' := 24) (same := true) rfl (hb hby d3_21) rfl (decide_eq_true (congrArg Value.ref hc123)) (by decide) (by decide) ?_
        show Steps p.tables e below (T120.setTop (mkF m 24 #[.val (.ref a_Organizes), .val (.ref t), .val (.ref a_HierarchicalReferences)] [])) _
        refine XS.iconst X120.here hx rfl (hb hby d3_24) ?_
        show Steps p.tables e below (T120.setTop (mkF m 25 #[.val (.ref a_Organizes), .val (.ref t), .val (.ref a_HierarchicalReferences)] [(.int (1 : Int32))])) _
        refine XS.goto X120.here hx rfl (pc0 := 25) (pc' := 29) rfl (hb hby d3_25) (by decide) (by decide) ?_
        show Steps p.tables e below (T120.setTop (mkF m 29 #[.val (.ref a_Organizes), .val (.ref t), .val (.ref a_HierarchicalReferences)] [(.int (1 : Int32))])) _
        exact kq)
      obtain ⟨fs, hr, hrun, hended, hW, hsame⟩ := X120.leave (v := some (.int (nar .boolean (1 : Int32)))) (fun h => by rw [Bd.returns] at h; cases h)
      refine ⟨_, _, (by rw [← hA0]; exact G124 _ (retN X120 hx (t := .boolean) Bd.returns (by simp) (hb hby d3_29) hr)), hrun, hended, _, _, rfl, ?_, ⟨_, rfl⟩, hW, hsame.mono (by decide) (by decide)⟩
      exact ⟨(by rw [show own_b (a_Organizes = t ∨ a_HierarchicalReferences = t ∨ a_References = t) = (1 : Int32) from by simp [own_b, hc117, hc123]]; rfl), N0, e120⟩
    · have G125 : Go p e below A0 (T120.setTop (mkF m 12 #[.val (.ref a_Organizes), .val (.ref t), .val (.ref a_HierarchicalReferences)] [(.ref a_HierarchicalReferences)])) := fun tq kq => G122 tq (by
        refine Jvm.RoadKit.acmp (g := (mkF m 8 #[.val (.ref a_Organizes), .val (.ref t), .val (.ref a_HierarchicalReferences)] [(.ref t), (.ref a_HierarchicalReferences)])) X120 hx rfl rfl rfl (pc0 := 8) (pc' := 11) (same := false) rfl (hb hby d3_8) rfl (decide_eq_false fun q => hc123 (Value.ref.inj q)) (by decide) (by decide) ?_
        show Steps p.tables e below (T120.setTop (mkF m 11 #[.val (.ref a_Organizes), .val (.ref t), .val (.ref a_HierarchicalReferences)] [])) _
        refine XS.aloadN X120.here hx rfl (hb hby d3_11) rfl rfl ?_
        show Steps p.tables e below (T120.setTop (mkF m 12 #[.val (.ref a_Organizes), .val (.ref t), .val (.ref a_HierarchicalReferences)] [(.ref a_HierarchicalReferences)])) _
        exact kq)
      obtain ⟨T126, X126, e126, st126⟩ := getF X120 hx hZ hown (host := "") (Or.inl (hw _ (List.mem_of_getElem? (i := 18) rfl))) Via.refl e120 F_a_HierarchicalReferences_supertype (g := (mkF m 12 #[.val (.ref a_Organizes), .val (.ref t), .val (.ref a_HierarchicalReferences)] [(.ref a_HierarchicalReferences)])) rfl rfl (hb hby d3_12)
      have G127 : Go p e below A0 (T126.setTop (mkF m 15 #[.val (.ref a_Organizes), .val (.ref t), .val (.ref a_HierarchicalReferences)] [(.ref a_References)])) := fun tq kq => G125 tq (st126 _ kq)
      have G128 : Go p e below A0 (T126.setTop (mkF m 8 #[.val (.ref a_Organizes), .val (.ref t), .val (.ref a_References)] [(.ref t), (.ref a_References)])) := fun tq kq => G127 tq (by
        refine XS.astoreN X126.here hx rfl (hb hby d3_15) rfl rfl (l' := #[.val (.ref a_Organizes), .val (.ref t), .val (.ref a_References)]) rfl ?_
        show Steps p.tables e below (T126.setTop (mkF m 16 #[.val (.ref a_Organizes), .val (.ref t), .val (.ref a_References)] [])) _
        refine XS.goto X126.here hx rfl (pc0 := 16) (pc' := 2) rfl (hb hby d3_16) (by decide) (by decide) ?_
        show Steps p.tables e below (T126.setTop (mkF m 2 #[.val (.ref a_Organizes), .val (.ref t), .val (.ref a_References)] [])) _
        refine XS.aloadN X126.here hx rfl (hb hby d3_2) rfl rfl ?_
        show Steps p.tables e below (T126.setTop (mkF m 3 #[.val (.ref a_Organizes), .val (.ref t), .val (.ref a_References)] [(.ref a_References)])) _
        refine XS.ifnullNo X126.here hx rfl (hb hby d3_3) rfl ?_
        show Steps p.tables e below (T126.setTop (mkF m 6 #[.val (.ref a_Organizes), .val (.ref t), .val (.ref a_References)] [])) _
        refine XS.aloadN X126.here hx rfl (hb hby d3_6) rfl rfl ?_
        show Steps p.tables e below (T126.setTop (mkF m 7 #[.val (.ref a_Organizes), .val (.ref t), .val (.ref a_References)] [(.ref a_References)])) _
        refine XS.aloadN X126.here hx rfl (hb hby d3_7) rfl rfl ?_
        show Steps p.tables e below (T126.setTop (mkF m 8 #[.val (.ref a_Organizes), .val (.ref t), .val (.ref a_References)] [(.ref t), (.ref a_References)])) _
        exact kq)
      by_cases hc129 : a_References = t
      · have G130 : Go p e below A0 (T126.setTop (mkF m 29 #[.val (.ref a_Organizes), .val (.ref t), .val (.ref a_References)] [(.int (1 : Int32))])) := fun tq kq => G128 tq (by
          refine Jvm.RoadKit.acmp (g := (mkF m 8 #[.val (.ref a_Organizes), .val (.ref t), .val (.ref a_References)] [(.ref t), (.ref a_References)])) X126 hx rfl rfl rfl (pc0 := 8) (pc' := 19) (same := true) rfl (hb hby d3_8) rfl (decide_eq_true (congrArg Value.ref hc129)) (by decide) (by decide) ?_
          show Steps p.tables e below (T126.setTop (mkF m 19 #[.val (.ref a_Organizes), .val (.ref t), .val (.ref a_References)] [])) _
          refine XS.aloadN X126.here hx rfl (hb hby d3_19) rfl rfl ?_
          show Steps p.tables e below (T126.setTop (mkF m 20 #[.val (.ref a_Organizes), .val (.ref t), .val (.ref a_References)] [(.ref a_References)])) _
          refine XS.aloadN X126.here hx rfl (hb hby d3_20) rfl rfl ?_
          show Steps p.tables e below (T126.setTop (mkF m 21 #[.val (.ref a_Organizes), .val (.ref t), .val (.ref a_References)] [(.ref t), (.ref a_References)])) _
          refine Jvm.RoadKit.acmp (g := (mkF m 21 #[.val (.ref a_Organizes), .val (.ref t), .val (.ref a_References)] [(.ref t), (.ref a_References)])) X126 hx rfl rfl rfl (pc0 := 21) (pc' := 24) (same := true) rfl (hb hby d3_21) rfl (decide_eq_true (congrArg Value.ref hc129)) (by decide) (by decide) ?_
          show Steps p.tables e below (T126.setTop (mkF m 24 #[.val (.ref a_Organizes), .val (.ref t), .val (.ref a_References)] [])) _
          refine XS.iconst X126.here hx rfl (hb hby d3_24) ?_
          show Steps p.tables e below (T126.setTop (mkF m 25 #[.val (.ref a_Organizes), .val (.ref t), .val (.ref a_References)] [(.int (1 : Int32))])) _
          refine XS.goto X126.here hx rfl (pc0 := 25) (pc' := 29) rfl (hb hby d3_25) (by decide) (by decide) ?_
          show Steps p.tables e below (T126.setTop (mkF m 29 #[.val (.ref a_Organizes), .val (.ref t), .val (.ref a_References)] [(.int (1 : Int32))])) _
          exact kq)
        obtain ⟨fs, hr, hrun, hended, hW, hsame⟩ := X126.leave (v := some (.int (nar .boolean (1 : Int32)))) (fun h => by rw [Bd.returns] at h; cases h)
        refine ⟨_, _, (by rw [← hA0]; exact G130 _ (retN X126 hx (t := .boolean) Bd.returns (by simp) (hb hby d3_29) hr)), hrun, hended, _, _, rfl, ?_, ⟨_, rfl⟩, hW, hsame.mono (by decide) (by decide)⟩
        exact ⟨(by rw [show own_b (a_Organizes = t ∨ a_HierarchicalReferences = t ∨ a_References = t) = (1 : Int32) from by simp [own_b, hc117, hc123, hc129]]; rfl), N0, e126⟩
      · have G131 : Go p e below A0 (T126.setTop (mkF m 12 #[.val (.ref a_Organizes), .val (.ref t), .val (.ref a_References)] [(.ref a_References)])) := fun tq kq => G128 tq (by
          refine Jvm.RoadKit.acmp (g := (mkF m 8 #[.val (.ref a_Organizes), .val (.ref t), .val (.ref a_References)] [(.ref t), (.ref a_References)])) X126 hx rfl rfl rfl (pc0 := 8) (pc' := 11) (same := false) rfl (hb hby d3_8) rfl (decide_eq_false fun q => hc129 (Value.ref.inj q)) (by decide) (by decide) ?_
          show Steps p.tables e below (T126.setTop (mkF m 11 #[.val (.ref a_Organizes), .val (.ref t), .val (.ref a_References)] [])) _
          refine XS.aloadN X126.here hx rfl (hb hby d3_11) rfl rfl ?_
          show Steps p.tables e below (T126.setTop (mkF m 12 #[.val (.ref a_Organizes), .val (.ref t), .val (.ref a_References)] [(.ref a_References)])) _
          exact kq)
        obtain ⟨T132, X132, e132, st132⟩ := getF X126 hx hZ hown (host := "") (Or.inl (hw _ (List.mem_of_getElem? (i := 18) rfl))) Via.refl e126 F_a_References_supertype (g := (mkF m 12 #[.val (.ref a_Organizes), .val (.ref t), .val (.ref a_References)] [(.ref a_References)])) rfl rfl (hb hby d3_12)
        have G133 : Go p e below A0 (T132.setTop (mkF m 15 #[.val (.ref a_Organizes), .val (.ref t), .val (.ref a_References)] [.null])) := fun tq kq => G131 tq (st132 _ kq)
        have G134 : Go p e below A0 (T132.setTop (mkF m 29 #[.val (.ref a_Organizes), .val (.ref t), .val .null] [(.int (0 : Int32))])) := fun tq kq => G133 tq (by
          refine XS.astoreN X132.here hx rfl (hb hby d3_15) rfl rfl (l' := #[.val (.ref a_Organizes), .val (.ref t), .val .null]) rfl ?_
          show Steps p.tables e below (T132.setTop (mkF m 16 #[.val (.ref a_Organizes), .val (.ref t), .val .null] [])) _
          refine XS.goto X132.here hx rfl (pc0 := 16) (pc' := 2) rfl (hb hby d3_16) (by decide) (by decide) ?_
          show Steps p.tables e below (T132.setTop (mkF m 2 #[.val (.ref a_Organizes), .val (.ref t), .val .null] [])) _
          refine XS.aloadN X132.here hx rfl (hb hby d3_2) rfl rfl ?_
          show Steps p.tables e below (T132.setTop (mkF m 3 #[.val (.ref a_Organizes), .val (.ref t), .val .null] [.null])) _
          refine XS.ifnullYes X132.here hx rfl (pc0 := 3) (pc' := 19) rfl (hb hby d3_3) rfl (by decide) (by decide) ?_
          show Steps p.tables e below (T132.setTop (mkF m 19 #[.val (.ref a_Organizes), .val (.ref t), .val .null] [])) _
          refine XS.aloadN X132.here hx rfl (hb hby d3_19) rfl rfl ?_
          show Steps p.tables e below (T132.setTop (mkF m 20 #[.val (.ref a_Organizes), .val (.ref t), .val .null] [.null])) _
          refine XS.aloadN X132.here hx rfl (hb hby d3_20) rfl rfl ?_
          show Steps p.tables e below (T132.setTop (mkF m 21 #[.val (.ref a_Organizes), .val (.ref t), .val .null] [(.ref t), .null])) _
          refine Jvm.RoadKit.acmp (g := (mkF m 21 #[.val (.ref a_Organizes), .val (.ref t), .val .null] [(.ref t), .null])) X132 hx rfl rfl rfl (pc0 := 21) (pc' := 28) (same := false) rfl (hb hby d3_21) rfl (decide_eq_false nofun) (by decide) (by decide) ?_
          show Steps p.tables e below (T132.setTop (mkF m 28 #[.val (.ref a_Organizes), .val (.ref t), .val .null] [])) _
          refine XS.iconst X132.here hx rfl (hb hby d3_28) ?_
          show Steps p.tables e below (T132.setTop (mkF m 29 #[.val (.ref a_Organizes), .val (.ref t), .val .null] [(.int (0 : Int32))])) _
          exact kq)
        obtain ⟨fs, hr, hrun, hended, hW, hsame⟩ := X132.leave (v := some (.int (nar .boolean (0 : Int32)))) (fun h => by rw [Bd.returns] at h; cases h)
        refine ⟨_, _, (by rw [← hA0]; exact G134 _ (retN X132 hx (t := .boolean) Bd.returns (by simp) (hb hby d3_29) hr)), hrun, hended, _, _, rfl, ?_, ⟨_, rfl⟩, hW, hsame.mono (by decide) (by decide)⟩
        exact ⟨(by rw [show own_b (a_Organizes = t ∨ a_HierarchicalReferences = t ∨ a_References = t) = (0 : Int32) from by simp [own_b, hc117, hc123, hc129]]; rfl), N0, e132⟩
set_option maxRecDepth 65536 in
set_option maxHeartbeats 40000000 in
theorem rm3_4 (l : Launch) (Z : State) (a0 : Array Value) (hw : ∀ d ∈ tables_1, d.before a0 Z = true) (ws : List Jvm.Cond) (a_Aggregates a_HasChild a_HierarchicalReferences a_References t : Addr) (h0 : Heap) (n0 : Nat) (Z0 : n0 ≤ h0.size) (F_a_Aggregates_supertype : Fld Z h0 a_Aggregates "com/example/halyard/halyard/server/ReferenceType" "supertype" "Lcom/example/halyard/halyard/server/ReferenceType;" (.ref a_HasChild)) (F_a_HasChild_supertype : Fld Z h0 a_HasChild "com/example/halyard/halyard/server/ReferenceType" "supertype" "Lcom/example/halyard/halyard/server/ReferenceType;" (.ref a_HierarchicalReferences)) (F_a_HierarchicalReferences_supertype : Fld Z h0 a_HierarchicalReferences "com/example/halyard/halyard/server/ReferenceType" "supertype" "Lcom/example/halyard/halyard/server/ReferenceType;" (.ref a_References)) (F_a_References_supertype : Fld Z h0 a_References "com/example/halyard/halyard/server/ReferenceType" "supertype" "Lcom/example/halyard/halyard/server/ReferenceType;" .null) :
    MetFree l (⟨"com/example/halyard/halyard/server/ReferenceType", "isSubtypeOf", "(Lcom/example/halyard/halyard/server/ReferenceType;)Z"⟩ : MethodName) (head1 (Jvm.Cond.code (⟨"com/example/halyard/halyard/server/ReferenceType", "isSubtypeOf", "(Lcom/example/halyard/halyard/server/ReferenceType;)Z"⟩ : MethodName) prog_116_method_8_code 3 (some .boolean) :: ws) ({ frames := 0, cells := 0, slots := 0, locals := 0 } : Room)) (fun aa UU => aa = #[(.ref a_Aggregates), (.ref t)] ∧ Z.Warmed39 UU.vm ∧ UU.heap = h0) (fun _ _ _ _ _ => True) (fun _ UU oo U' => ∃ v L, oo = .returned v ∧ Qr (.int (own_b (a_Aggregates = t ∨ a_HasChild = t ∨ a_HierarchicalReferences = t ∨ a_References = t))) h0 n0 v U'.heap L ∧ FrameEnd UU oo U' L ({ frames := 0, cells := 0, slots := 0, locals := 0 } : Room).cells ({ frames := 0, cells := 0, slots := 0, locals := 0 } : Room).slots) := by
  refine MetFree.of_bodySF (plainFor_of_name pn_1) hisR ?_
  intro p e s m args below meth c s₁ Bd hml0 hP hK
  obtain ⟨rfl, hZ, hh⟩ := hP
  have hx := Bd.exec
  have hby := Bd.bytes
  have hml : c.maxLocals = 3 := hml0
  have hown : s.vm.findClass "com/example/halyard/halyard/server/ReferenceType" = some m.cls := findClass_of_methodNamed Bd.named
  have hnm := (name_of_methodNamed Bd.named Bd.method).1
  have X0 : Stand p l e ({ frames := 0, cells := 0, slots := 0, locals := 0 } : Room) s m #[(.ref a_Aggregates), (.ref t)] below meth c s₁ [] 0 0 := Stand.of_body Bd
  have e0 : s₁.heap = h0 := by rw [← hh, Bd.state]; rfl
  have N0 := Fr.nil n0
  obtain ⟨A0, hA0⟩ : ∃ A, A = s₁.setTop (entryFrame m #[(.ref a_Aggregates), (.ref t)] 3) := ⟨_, rfl⟩
  have G0 : Go p e below A0 (s₁.setTop (mkF m 0 #[.val (.ref a_Aggregates), .val (.ref t), .unset] [])) := fun tq kq => by rw [hA0]; exact castTop (ef_rm3_4 m a_Aggregates t) kq
  have G135 : Go p e below A0 (s₁.setTop (mkF m 8 #[.val (.ref a_Aggregates), .val (.ref t), .val (.ref a_Aggregates)] [(.ref t), (.ref a_Aggregates)])) := fun tq kq => G0 tq (by
    refine XS.aloadN X0.here hx rfl (hb hby d3_0) rfl rfl ?_
    show Steps p.tables e below (s₁.setTop (mkF m 1 #[.val (.ref a_Aggregates), .val (.ref t), .unset] [(.ref a_Aggregates)])) _
    refine XS.astoreN X0.here hx rfl (hb hby d3_1) rfl rfl (l' := #[.val (.ref a_Aggregates), .val (.ref t), .val (.ref a_Aggregates)]) rfl ?_
    show Steps p.tables e below (s₁.setTop (mkF m 2 #[.val (.ref a_Aggregates), .val (.ref t), .val (.ref a_Aggregates)] [])) _
    refine XS.aloadN X0.here hx rfl (hb hby d3_2) rfl rfl ?_
    show Steps p.tables e below (s₁.setTop (mkF m 3 #[.val (.ref a_Aggregates), .val (.ref t), .val (.ref a_Aggregates)] [(.ref a_Aggregates)])) _
    refine XS.ifnullNo X0.here hx rfl (hb hby d3_3) rfl ?_
    show Steps p.tables e below (s₁.setTop (mkF m 6 #[.val (.ref a_Aggregates), .val (.ref t), .val (.ref a_Aggregates)] [])) _
    refine XS.aloadN X0.here hx rfl (hb hby d3_6) rfl rfl ?_
    show Steps p.tables e below (s₁.setTop (mkF m 7 #[.val (.ref a_Aggregates), .val (.ref t), .val (.ref a_Aggregates)] [(.ref a_Aggregates)])) _
    refine XS.aloadN X0.here hx rfl (hb hby d3_7) rfl rfl ?_
    show Steps p.tables e below (s₁.setTop (mkF m 8 #[.val (.ref a_Aggregates), .val (.ref t), .val (.ref a_Aggregates)] [(.ref t), (.ref a_Aggregates)])) _
    exact kq)
  by_cases hc136 : a_Aggregates = t
  · have G137 : Go p e below A0 (s₁.setTop (mkF m 29 #[.val (.ref a_Aggregates), .val (.ref t), .val (.ref a_Aggregates)] [(.int (1 : Int32))])) := fun tq kq => G135 tq (by
      refine Jvm.RoadKit.acmp (g := (mkF m 8 #[.val (.ref a_Aggregates), .val (.ref t), .val (.ref a_Aggregates)] [(.ref t), (.ref a_Aggregates)])) X0 hx rfl rfl rfl (pc0 := 8) (pc' := 19) (same := true) rfl (hb hby d3_8) rfl (decide_eq_true (congrArg Value.ref hc136)) (by decide) (by decide) ?_
      show Steps p.tables e below (s₁.setTop (mkF m 19 #[.val (.ref a_Aggregates), .val (.ref t), .val (.ref a_Aggregates)] [])) _
      refine XS.aloadN X0.here hx rfl (hb hby d3_19) rfl rfl ?_
      show Steps p.tables e below (s₁.setTop (mkF m 20 #[.val (.ref a_Aggregates), .val (.ref t), .val (.ref a_Aggregates)] [(.ref a_Aggregates)])) _
      refine XS.aloadN X0.here hx rfl (hb hby d3_20) rfl rfl ?_
      show Steps p.tables e below (s₁.setTop (mkF m 21 #[.val (.ref a_Aggregates), .val (.ref t), .val (.ref a_Aggregates)] [(.ref t), (.ref a_Aggregates)])) _
      refine Jvm.RoadKit.acmp (g := (mkF m 21 #[.val (.ref a_Aggregates), .val (.ref t), .val (.ref a_Aggregates)] [(.ref t), (.ref a_Aggregates)])) X0 hx rfl rfl rfl (pc0 := 21) (pc' := 24) (same := true) rfl (hb hby d3_21) rfl (decide_eq_true (congrArg Value.ref hc136)) (by decide) (by decide) ?_
      show Steps p.tables e below (s₁.setTop (mkF m 24 #[.val (.ref a_Aggregates), .val (.ref t), .val (.ref a_Aggregates)] [])) _
      refine XS.iconst X0.here hx rfl (hb hby d3_24) ?_
      show Steps p.tables e below (s₁.setTop (mkF m 25 #[.val (.ref a_Aggregates), .val (.ref t), .val (.ref a_Aggregates)] [(.int (1 : Int32))])) _
      refine XS.goto X0.here hx rfl (pc0 := 25) (pc' := 29) rfl (hb hby d3_25) (by decide) (by decide) ?_
      show Steps p.tables e below (s₁.setTop (mkF m 29 #[.val (.ref a_Aggregates), .val (.ref t), .val (.ref a_Aggregates)] [(.int (1 : Int32))])) _
      exact kq)
    obtain ⟨fs, hr, hrun, hended, hW, hsame⟩ := X0.leave (v := some (.int (nar .boolean (1 : Int32)))) (fun h => by rw [Bd.returns] at h; cases h)
    refine ⟨_, _, (by rw [← hA0]; exact G137 _ (retN X0 hx (t := .boolean) Bd.returns (by simp) (hb hby d3_29) hr)), hrun, hended, _, _, rfl, ?_, ⟨_, rfl⟩, hW, hsame.mono (by decide) (by decide)⟩
    exact ⟨(by rw [show own_b (a_Aggregates = t ∨ a_HasChild = t ∨ a_HierarchicalReferences = t ∨ a_References = t) = (1 : Int32) from by simp [own_b, hc136]]; rfl), N0, e0⟩
  · have G138 : Go p e below A0 (s₁.setTop (mkF m 12 #[.val (.ref a_Aggregates), .val (.ref t), .val (.ref a_Aggregates)] [(.ref a_Aggregates)])) := fun tq kq => G135 tq (by
      refine Jvm.RoadKit.acmp (g := (mkF m 8 #[.val (.ref a_Aggregates), .val (.ref t), .val (.ref a_Aggregates)] [(.ref t), (.ref a_Aggregates)])) X0 hx rfl rfl rfl (pc0 := 8) (pc' := 11) (same := false) rfl (hb hby d3_8) rfl (decide_eq_false fun q => hc136 (Value.ref.inj q)) (by decide) (by decide) ?_
      show Steps p.tables e below (s₁.setTop (mkF m 11 #[.val (.ref a_Aggregates), .val (.ref t), .val (.ref a_Aggregates)] [])) _
      refine XS.aloadN X0.here hx rfl (hb hby d3_11) rfl rfl ?_
      show Steps p.tables e below (s₁.setTop (mkF m 12 #[.val (.ref a_Aggregates), .val (.ref t), .val (.ref a_Aggregates)] [(.ref a_Aggregates)])) _
      exact kq)
    obtain ⟨T139, X139, e139, st139⟩ := getF X0 hx hZ hown (host := "") (Or.inl (hw _ (List.mem_of_getElem? (i := 18) rfl))) Via.refl e0 F_a_Aggregates_supertype (g := (mkF m 12 #[.val (.ref a_Aggregates), .val (.ref t), .val (.ref a_Aggregates)] [(.ref a_Aggregates)])) rfl rfl (hb hby d3_12)
    have G140 : Go p e below A0 (T139.setTop (mkF m 15 #[.val (.ref a_Aggregates), .val (.ref t), .val (.ref a_Aggregates)] [(.ref a_HasChild)])) := fun tq kq => G138 tq (st139 _ kq)
    have G141 : Go p e below A0 (T139.setTop (mkF m 8 #[.val (.ref a_Aggregates), .val (.ref t), .val (.ref a_HasChild)] [(.ref t), (.ref a_HasChild)])) := fun tq kq => G140 tq (by
      refine XS.astoreN X139.here hx rfl (hb hby d3_15) rfl rfl (l' := #[.val (.ref a_Aggregates), .val (.ref t), .val (.ref a_HasChild)]) rfl ?_
      show Steps p.tables e below (T139.setTop (mkF m 16 #[.val (.ref a_Aggregates), .val (.ref t), .val (.ref a_HasChild)] [])) _
      refine XS.goto X139.here hx rfl (pc0 := 16) (pc' := 2) rfl (hb hby d3_16) (by decide) (by decide) ?_
      show Steps p.tables e below (T139.setTop (mkF m 2 #[.val (.ref a_Aggregates), .val (.ref t), .val (.ref a_HasChild)] [])) _
      refine XS.aloadN X139.here hx rfl (hb hby d3_2) rfl rfl ?_
      show Steps p.tables e below (T139.setTop (mkF m 3 #[.val (.ref a_Aggregates), .val (.ref t), .val (.ref a_HasChild)] [(.ref a_HasChild)])) _
      refine XS.ifnullNo X139.here hx rfl (hb hby d3_3) rfl ?_
      show Steps p.tables e below (T139.setTop (mkF m 6 #[.val (.ref a_Aggregates), .val (.ref t), .val (.ref a_HasChild)] [])) _
      refine XS.aloadN X139.here hx rfl (hb hby d3_6) rfl rfl ?_
      show Steps p.tables e below (T139.setTop (mkF m 7 #[.val (.ref a_Aggregates), .val (.ref t), .val (.ref a_HasChild)] [(.ref a_HasChild)])) _
      refine XS.aloadN X139.here hx rfl (hb hby d3_7) rfl rfl ?_
      show Steps p.tables e below (T139.setTop (mkF m 8 #[.val (.ref a_Aggregates), .val (.ref t), .val (.ref a_HasChild)] [(.ref t), (.ref a_HasChild)])) _
      exact kq)
    by_cases hc142 : a_HasChild = t
    · have G143 : Go p e below A0 (T139.setTop (mkF m 29 #[.val (.ref a_Aggregates), .val (.ref t), .val (.ref a_HasChild)] [(.int (1 : Int32))])) := fun tq kq => G141 tq (by
        refine Jvm.RoadKit.acmp (g := (mkF m 8 #[.val (.ref a_Aggregates), .val (.ref t), .val (.ref a_HasChild)] [(.ref t), (.ref a_HasChild)])) X139 hx rfl rfl rfl (pc0 := 8) (pc' := 19) (same := true) rfl (hb hby d3_8) rfl (decide_eq_true (congrArg Value.ref hc142)) (by decide) (by decide) ?_
        show Steps p.tables e below (T139.setTop (mkF m 19 #[.val (.ref a_Aggregates), .val (.ref t), .val (.ref a_HasChild)] [])) _
        refine XS.aloadN X139.here hx rfl (hb hby d3_19) rfl rfl ?_
        show Steps p.tables e below (T139.setTop (mkF m 20 #[.val (.ref a_Aggregates), .val (.ref t), .val (.ref a_HasChild)] [(.ref a_HasChild)])) _
        refine XS.aloadN X139.here hx rfl (hb hby d3_20) rfl rfl ?_
        show Steps p.tables e below (T139.setTop (mkF m 21 #[.val (.ref a_Aggregates), .val (.ref t), .val (.ref a_HasChild)] [(.ref t), (.ref a_HasChild)])) _
        refine Jvm.RoadKit.acmp (g := (mkF m 21 #[.val (.ref a_Aggregates), .val (.ref t), .val (.ref a_HasChild)] [(.ref t), (.ref a_HasChild)])) X139 hx rfl rfl rfl (pc0 := 21) (pc' := 24) (same := true) rfl (hb hby d3_21) rfl (decide_eq_true (congrArg Value.ref hc142)) (by decide) (by decide) ?_
        show Steps p.tables e below (T139.setTop (mkF m 24 #[.val (.ref a_Aggregates), .val (.ref t), .val (.ref a_HasChild)] [])) _
        refine XS.iconst X139.here hx rfl (hb hby d3_24) ?_
        show Steps p.tables e below (T139.setTop (mkF m 25 #[.val (.ref a_Aggregates), .val (.ref t), .val (.ref a_HasChild)] [(.int (1 : Int32))])) _
        refine XS.goto X139.here hx rfl (pc0 := 25) (pc' := 29) rfl (hb hby d3_25) (by decide) (by decide) ?_
        show Steps p.tables e below (T139.setTop (mkF m 29 #[.val (.ref a_Aggregates), .val (.ref t), .val (.ref a_HasChild)] [(.int (1 : Int32))])) _
        exact kq)
      obtain ⟨fs, hr, hrun, hended, hW, hsame⟩ := X139.leave (v := some (.int (nar .boolean (1 : Int32)))) (fun h => by rw [Bd.returns] at h; cases h)
      refine ⟨_, _, (by rw [← hA0]; exact G143 _ (retN X139 hx (t := .boolean) Bd.returns (by simp) (hb hby d3_29) hr)), hrun, hended, _, _, rfl, ?_, ⟨_, rfl⟩, hW, hsame.mono (by decide) (by decide)⟩
      exact ⟨(by rw [show own_b (a_Aggregates = t ∨ a_HasChild = t ∨ a_HierarchicalReferences = t ∨ a_References = t) = (1 : Int32) from by simp [own_b, hc136, hc142]]; rfl), N0, e139⟩
    · have G144 : Go p e below A0 (T139.setTop (mkF m 12 #[.val (.ref a_Aggregates), .val (.ref t), .val (.ref a_HasChild)] [(.ref a_HasChild)])) := fun tq kq => G141 tq (by
        refine Jvm.RoadKit.acmp (g := (mkF m 8 #[.val (.ref a_Aggregates), .val (.ref t), .val (.ref a_HasChild)] [(.ref t), (.ref a_HasChild)])) X139 hx rfl rfl rfl (pc0 := 8) (pc' := 11) (same := false) rfl (hb hby d3_8) rfl (decide_eq_false fun q => hc142 (Value.ref.inj q)) (by decide) (by decide) ?_
        show Steps p.tables e below (T139.setTop (mkF m 11 #[.val (.ref a_Aggregates), .val (.ref t), .val (.ref a_HasChild)] [])) _
        refine XS.aloadN X139.here hx rfl (hb hby d3_11) rfl rfl ?_
        show Steps p.tables e below (T139.setTop (mkF m 12 #[.val (.ref a_Aggregates), .val (.ref t), .val (.ref a_HasChild)] [(.ref a_HasChild)])) _
        exact kq)
      obtain ⟨T145, X145, e145, st145⟩ := getF X139 hx hZ hown (host := "") (Or.inl (hw _ (List.mem_of_getElem? (i := 18) rfl))) Via.refl e139 F_a_HasChild_supertype (g := (mkF m 12 #[.val (.ref a_Aggregates), .val (.ref t), .val (.ref a_HasChild)] [(.ref a_HasChild)])) rfl rfl (hb hby d3_12)
      have G146 : Go p e below A0 (T145.setTop (mkF m 15 #[.val (.ref a_Aggregates), .val (.ref t), .val (.ref a_HasChild)] [(.ref a_HierarchicalReferences)])) := fun tq kq => G144 tq (st145 _ kq)
      have G147 : Go p e below A0 (T145.setTop (mkF m 8 #[.val (.ref a_Aggregates), .val (.ref t), .val (.ref a_HierarchicalReferences)] [(.ref t), (.ref a_HierarchicalReferences)])) := fun tq kq => G146 tq (by
        refine XS.astoreN X145.here hx rfl (hb hby d3_15) rfl rfl (l' := #[.val (.ref a_Aggregates), .val (.ref t), .val (.ref a_HierarchicalReferences)]) rfl ?_
        show Steps p.tables e below (T145.setTop (mkF m 16 #[.val (.ref a_Aggregates), .val (.ref t), .val (.ref a_HierarchicalReferences)] [])) _
        refine XS.goto X145.here hx rfl (pc0 := 16) (pc' := 2) rfl (hb hby d3_16) (by decide) (by decide) ?_
        show Steps p.tables e below (T145.setTop (mkF m 2 #[.val (.ref a_Aggregates), .val (.ref t), .val (.ref a_HierarchicalReferences)] [])) _
        refine XS.aloadN X145.here hx rfl (hb hby d3_2) rfl rfl ?_
        show Steps p.tables e below (T145.setTop (mkF m 3 #[.val (.ref a_Aggregates), .val (.ref t), .val (.ref a_HierarchicalReferences)] [(.ref a_HierarchicalReferences)])) _
        refine XS.ifnullNo X145.here hx rfl (hb hby d3_3) rfl ?_
        show Steps p.tables e below (T145.setTop (mkF m 6 #[.val (.ref a_Aggregates), .val (.ref t), .val (.ref a_HierarchicalReferences)] [])) _
        refine XS.aloadN X145.here hx rfl (hb hby d3_6) rfl rfl ?_
        show Steps p.tables e below (T145.setTop (mkF m 7 #[.val (.ref a_Aggregates), .val (.ref t), .val (.ref a_HierarchicalReferences)] [(.ref a_HierarchicalReferences)])) _
        refine XS.aloadN X145.here hx rfl (hb hby d3_7) rfl rfl ?_
        show Steps p.tables e below (T145.setTop (mkF m 8 #[.val (.ref a_Aggregates), .val (.ref t), .val (.ref a_HierarchicalReferences)] [(.ref t), (.ref a_HierarchicalReferences)])) _
        exact kq)
      by_cases hc148 : a_HierarchicalReferences = t
      · have G149 : Go p e below A0 (T145.setTop (mkF m 29 #[.val (.ref a_Aggregates), .val (.ref t), .val (.ref a_HierarchicalReferences)] [(.int (1 : Int32))])) := fun tq kq => G147 tq (by
          refine Jvm.RoadKit.acmp (g := (mkF m 8 #[.val (.ref a_Aggregates), .val (.ref t), .val (.ref a_HierarchicalReferences)] [(.ref t), (.ref a_HierarchicalReferences)])) X145 hx rfl rfl rfl (pc0 := 8) (pc' := 19) (same := true) rfl (hb hby d3_8) rfl (decide_eq_true (congrArg Value.ref hc148)) (by decide) (by decide) ?_
          show Steps p.tables e below (T145.setTop (mkF m 19 #[.val (.ref a_Aggregates), .val (.ref t), .val (.ref a_HierarchicalReferences)] [])) _
          refine XS.aloadN X145.here hx rfl (hb hby d3_19) rfl rfl ?_
          show Steps p.tables e below (T145.setTop (mkF m 20 #[.val (.ref a_Aggregates), .val (.ref t), .val (.ref a_HierarchicalReferences)] [(.ref a_HierarchicalReferences)])) _
          refine XS.aloadN X145.here hx rfl (hb hby d3_20) rfl rfl ?_
          show Steps p.tables e below (T145.setTop (mkF m 21 #[.val (.ref a_Aggregates), .val (.ref t), .val (.ref a_HierarchicalReferences)] [(.ref t), (.ref a_HierarchicalReferences)])) _
          refine Jvm.RoadKit.acmp (g := (mkF m 21 #[.val (.ref a_Aggregates), .val (.ref t), .val (.ref a_HierarchicalReferences)] [(.ref t), (.ref a_HierarchicalReferences)])) X145 hx rfl rfl rfl (pc0 := 21) (pc' := 24) (same := true) rfl (hb hby d3_21) rfl (decide_eq_true (congrArg Value.ref hc148)) (by decide) (by decide) ?_
          show Steps p.tables e below (T145.setTop (mkF m 24 #[.val (.ref a_Aggregates), .val (.ref t), .val (.ref a_HierarchicalReferences)] [])) _
          refine XS.iconst X145.here hx rfl (hb hby d3_24) ?_
          show Steps p.tables e below (T145.setTop (mkF m 25 #[.val (.ref a_Aggregates), .val (.ref t), .val (.ref a_HierarchicalReferences)] [(.int (1 : Int32))])) _
          refine XS.goto X145.here hx rfl (pc0 := 25) (pc' := 29) rfl (hb hby d3_25) (by decide) (by decide) ?_
          show Steps p.tables e below (T145.setTop (mkF m 29 #[.val (.ref a_Aggregates), .val (.ref t), .val (.ref a_HierarchicalReferences)] [(.int (1 : Int32))])) _
          exact kq)
        obtain ⟨fs, hr, hrun, hended, hW, hsame⟩ := X145.leave (v := some (.int (nar .boolean (1 : Int32)))) (fun h => by rw [Bd.returns] at h; cases h)
        refine ⟨_, _, (by rw [← hA0]; exact G149 _ (retN X145 hx (t := .boolean) Bd.returns (by simp) (hb hby d3_29) hr)), hrun, hended, _, _, rfl, ?_, ⟨_, rfl⟩, hW, hsame.mono (by decide) (by decide)⟩
        exact ⟨(by rw [show own_b (a_Aggregates = t ∨ a_HasChild = t ∨ a_HierarchicalReferences = t ∨ a_References = t) = (1 : Int32) from by simp [own_b, hc136, hc142, hc148]]; rfl), N0, e145⟩
      · have G150 : Go p e below A0 (T145.setTop (mkF m 12 #[.val (.ref a_Aggregates), .val (.ref t), .val (.ref a_HierarchicalReferences)] [(.ref a_HierarchicalReferences)])) := fun tq kq => G147 tq (by
          refine Jvm.RoadKit.acmp (g := (mkF m 8 #[.val (.ref a_Aggregates), .val (.ref t), .val (.ref a_HierarchicalReferences)] [(.ref t), (.ref a_HierarchicalReferences)])) X145 hx rfl rfl rfl (pc0 := 8) (pc' := 11) (same := false) rfl (hb hby d3_8) rfl (decide_eq_false fun q => hc148 (Value.ref.inj q)) (by decide) (by decide) ?_
          show Steps p.tables e below (T145.setTop (mkF m 11 #[.val (.ref a_Aggregates), .val (.ref t), .val (.ref a_HierarchicalReferences)] [])) _
          refine XS.aloadN X145.here hx rfl (hb hby d3_11) rfl rfl ?_
          show Steps p.tables e below (T145.setTop (mkF m 12 #[.val (.ref a_Aggregates), .val (.ref t), .val (.ref a_HierarchicalReferences)] [(.ref a_HierarchicalReferences)])) _
          exact kq)
        obtain ⟨T151, X151, e151, st151⟩ := getF X145 hx hZ hown (host := "") (Or.inl (hw _ (List.mem_of_getElem? (i := 18) rfl))) Via.refl e145 F_a_HierarchicalReferences_supertype (g := (mkF m 12 #[.val (.ref a_Aggregates), .val (.ref t), .val (.ref a_HierarchicalReferences)] [(.ref a_HierarchicalReferences)])) rfl rfl (hb hby d3_12)
        have G152 : Go p e below A0 (T151.setTop (mkF m 15 #[.val (.ref a_Aggregates), .val (.ref t), .val (.ref a_HierarchicalReferences)] [(.ref a_References)])) := fun tq kq => G150 tq (st151 _ kq)
        have G153 : Go p e below A0 (T151.setTop (mkF m 8 #[.val (.ref a_Aggregates), .val (.ref t), .val (.ref a_References)] [(.ref t), (.ref a_References)])) := fun tq kq => G152 tq (by
          refine XS.astoreN X151.here hx rfl (hb hby d3_15) rfl rfl (l' := #[.val (.ref a_Aggregates), .val (.ref t), .val (.ref a_References)]) rfl ?_
          show Steps p.tables e below (T151.setTop (mkF m 16 #[.val (.ref a_Aggregates), .val (.ref t), .val (.ref a_References)] [])) _
          refine XS.goto X151.here hx rfl (pc0 := 16) (pc' := 2) rfl (hb hby d3_16) (by decide) (by decide) ?_
          show Steps p.tables e below (T151.setTop (mkF m 2 #[.val (.ref a_Aggregates), .val (.ref t), .val (.ref a_References)] [])) _
          refine XS.aloadN X151.here hx rfl (hb hby d3_2) rfl rfl ?_
          show Steps p.tables e below (T151.setTop (mkF m 3 #[.val (.ref a_Aggregates), .val (.ref t), .val (.ref a_References)] [(.ref a_References)])) _
          refine XS.ifnullNo X151.here hx rfl (hb hby d3_3) rfl ?_
          show Steps p.tables e below (T151.setTop (mkF m 6 #[.val (.ref a_Aggregates), .val (.ref t), .val (.ref a_References)] [])) _
          refine XS.aloadN X151.here hx rfl (hb hby d3_6) rfl rfl ?_
          show Steps p.tables e below (T151.setTop (mkF m 7 #[.val (.ref a_Aggregates), .val (.ref t), .val (.ref a_References)] [(.ref a_References)])) _
          refine XS.aloadN X151.here hx rfl (hb hby d3_7) rfl rfl ?_
          show Steps p.tables e below (T151.setTop (mkF m 8 #[.val (.ref a_Aggregates), .val (.ref t), .val (.ref a_References)] [(.ref t), (.ref a_References)])) _
          exact kq)
        by_cases hc154 : a_References = t
        · have G155 : Go p e below A0 (T151.setTop (mkF m 29 #[.val (.ref a_Aggregates), .val (.ref t), .val (.ref a_References)] [(.int (1 : Int32))])) := fun tq kq => G153 tq (by
            refine Jvm.RoadKit.acmp (g := (mkF m 8 #[.val (.ref a_Aggregates), .val (.ref t), .val (.ref a_References)] [(.ref t), (.ref a_References)])) X151 hx rfl rfl rfl (pc0 := 8) (pc' := 19) (same := true) rfl (hb hby d3_8) rfl (decide_eq_true (congrArg Value.ref hc154)) (by decide) (by decide) ?_
            show Steps p.tables e below (T151.setTop (mkF m 19 #[.val (.ref a_Aggregates), .val (.ref t), .val (.ref a_References)] [])) _
            refine XS.aloadN X151.here hx rfl (hb hby d3_19) rfl rfl ?_
            show Steps p.tables e below (T151.setTop (mkF m 20 #[.val (.ref a_Aggregates), .val (.ref t), .val (.ref a_References)] [(.ref a_References)])) _
            refine XS.aloadN X151.here hx rfl (hb hby d3_20) rfl rfl ?_
            show Steps p.tables e below (T151.setTop (mkF m 21 #[.val (.ref a_Aggregates), .val (.ref t), .val (.ref a_References)] [(.ref t), (.ref a_References)])) _
            refine Jvm.RoadKit.acmp (g := (mkF m 21 #[.val (.ref a_Aggregates), .val (.ref t), .val (.ref a_References)] [(.ref t), (.ref a_References)])) X151 hx rfl rfl rfl (pc0 := 21) (pc' := 24) (same := true) rfl (hb hby d3_21) rfl (decide_eq_true (congrArg Value.ref hc154)) (by decide) (by decide) ?_
            show Steps p.tables e below (T151.setTop (mkF m 24 #[.val (.ref a_Aggregates), .val (.ref t), .val (.ref a_References)] [])) _
            refine XS.iconst X151.here hx rfl (hb hby d3_24) ?_
            show Steps p.tables e below (T151.setTop (mkF m 25 #[.val (.ref a_Aggregates), .val (.ref t), .val (.ref a_References)] [(.int (1 : Int32))])) _
            refine XS.goto X151.here hx rfl (pc0 := 25) (pc' := 29) rfl (hb hby d3_25) (by decide) (by decide) ?_
            show Steps p.tables e below (T151.setTop (mkF m 29 #[.val (.ref a_Aggregates), .val (.ref t), .val (.ref a_References)] [(.int (1 : Int32))])) _
            exact kq)
          obtain ⟨fs, hr, hrun, hended, hW, hsame⟩ := X151.leave (v := some (.int (nar .boolean (1 : Int32)))) (fun h => by rw [Bd.returns] at h; cases h)
          refine ⟨_, _, (by rw [← hA0]; exact G155 _ (retN X151 hx (t := .boolean) Bd.returns (by simp) (hb hby d3_29) hr)), hrun, hended, _, _, rfl, ?_, ⟨_, rfl⟩, hW, hsame.mono (by decide) (by decide)⟩
          exact ⟨(by rw [show own_b (a_Aggregates = t ∨ a_HasChild = t ∨ a_HierarchicalReferences = t ∨ a_References = t) = (1 : Int32) from by simp [own_b, hc136, hc142, hc148, hc154]]; rfl), N0, e151⟩
        · have G156 : Go p e below A0 (T151.setTop (mkF m 12 #[.val (.ref a_Aggregates), .val (.ref t), .val (.ref a_References)] [(.ref a_References)])) := fun tq kq => G153 tq (by
            refine Jvm.RoadKit.acmp (g := (mkF m 8 #[.val (.ref a_Aggregates), .val (.ref t), .val (.ref a_References)] [(.ref t), (.ref a_References)])) X151 hx rfl rfl rfl (pc0 := 8) (pc' := 11) (same := false) rfl (hb hby d3_8) rfl (decide_eq_false fun q => hc154 (Value.ref.inj q)) (by decide) (by decide) ?_
            show Steps p.tables e below (T151.setTop (mkF m 11 #[.val (.ref a_Aggregates), .val (.ref t), .val (.ref a_References)] [])) _
            refine XS.aloadN X151.here hx rfl (hb hby d3_11) rfl rfl ?_
            show Steps p.tables e below (T151.setTop (mkF m 12 #[.val (.ref a_Aggregates), .val (.ref t), .val (.ref a_References)] [(.ref a_References)])) _
            exact kq)
          obtain ⟨T157, X157, e157, st157⟩ := getF X151 hx hZ hown (host := "") (Or.inl (hw _ (List.mem_of_getElem? (i := 18) rfl))) Via.refl e151 F_a_References_supertype (g := (mkF m 12 #[.val (.ref a_Aggregates), .val (.ref t), .val (.ref a_References)] [(.ref a_References)])) rfl rfl (hb hby d3_12)
          have G158 : Go p e below A0 (T157.setTop (mkF m 15 #[.val (.ref a_Aggregates), .val (.ref t), .val (.ref a_References)] [.null])) := fun tq kq => G156 tq (st157 _ kq)
          have G159 : Go p e below A0 (T157.setTop (mkF m 29 #[.val (.ref a_Aggregates), .val (.ref t), .val .null] [(.int (0 : Int32))])) := fun tq kq => G158 tq (by
            refine XS.astoreN X157.here hx rfl (hb hby d3_15) rfl rfl (l' := #[.val (.ref a_Aggregates), .val (.ref t), .val .null]) rfl ?_
            show Steps p.tables e below (T157.setTop (mkF m 16 #[.val (.ref a_Aggregates), .val (.ref t), .val .null] [])) _
            refine XS.goto X157.here hx rfl (pc0 := 16) (pc' := 2) rfl (hb hby d3_16) (by decide) (by decide) ?_
            show Steps p.tables e below (T157.setTop (mkF m 2 #[.val (.ref a_Aggregates), .val (.ref t), .val .null] [])) _
            refine XS.aloadN X157.here hx rfl (hb hby d3_2) rfl rfl ?_
            show Steps p.tables e below (T157.setTop (mkF m 3 #[.val (.ref a_Aggregates), .val (.ref t), .val .null] [.null])) _
            refine XS.ifnullYes X157.here hx rfl (pc0 := 3) (pc' := 19) rfl (hb hby d3_3) rfl (by decide) (by decide) ?_
            show Steps p.tables e below (T157.setTop (mkF m 19 #[.val (.ref a_Aggregates), .val (.ref t), .val .null] [])) _
            refine XS.aloadN X157.here hx rfl (hb hby d3_19) rfl rfl ?_
            show Steps p.tables e below (T157.setTop (mkF m 20 #[.val (.ref a_Aggregates), .val (.ref t), .val .null] [.null])) _
            refine XS.aloadN X157.here hx rfl (hb hby d3_20) rfl rfl ?_
            show Steps p.tables e below (T157.setTop (mkF m 21 #[.val (.ref a_Aggregates), .val (.ref t), .val .null] [(.ref t), .null])) _
            refine Jvm.RoadKit.acmp (g := (mkF m 21 #[.val (.ref a_Aggregates), .val (.ref t), .val .null] [(.ref t), .null])) X157 hx rfl rfl rfl (pc0 := 21) (pc' := 28) (same := false) rfl (hb hby d3_21) rfl (decide_eq_false nofun) (by decide) (by decide) ?_
            show Steps p.tables e below (T157.setTop (mkF m 28 #[.val (.ref a_Aggregates), .val (.ref t), .val .null] [])) _
            refine XS.iconst X157.here hx rfl (hb hby d3_28) ?_
            show Steps p.tables e below (T157.setTop (mkF m 29 #[.val (.ref a_Aggregates), .val (.ref t), .val .null] [(.int (0 : Int32))])) _
            exact kq)
          obtain ⟨fs, hr, hrun, hended, hW, hsame⟩ := X157.leave (v := some (.int (nar .boolean (0 : Int32)))) (fun h => by rw [Bd.returns] at h; cases h)
          refine ⟨_, _, (by rw [← hA0]; exact G159 _ (retN X157 hx (t := .boolean) Bd.returns (by simp) (hb hby d3_29) hr)), hrun, hended, _, _, rfl, ?_, ⟨_, rfl⟩, hW, hsame.mono (by decide) (by decide)⟩
          exact ⟨(by rw [show own_b (a_Aggregates = t ∨ a_HasChild = t ∨ a_HierarchicalReferences = t ∨ a_References = t) = (0 : Int32) from by simp [own_b, hc136, hc142, hc148, hc154]]; rfl), N0, e157⟩
set_option maxRecDepth 65536 in
set_option maxHeartbeats 40000000 in
theorem rm3_5 (l : Launch) (Z : State) (a0 : Array Value) (hw : ∀ d ∈ tables_1, d.before a0 Z = true) (ws : List Jvm.Cond) (a_HasSubtype a_HasChild a_HierarchicalReferences a_References t : Addr) (h0 : Heap) (n0 : Nat) (Z0 : n0 ≤ h0.size) (F_a_HasSubtype_supertype : Fld Z h0 a_HasSubtype "com/example/halyard/halyard/server/ReferenceType" "supertype" "Lcom/example/halyard/halyard/server/ReferenceType;" (.ref a_HasChild)) (F_a_HasChild_supertype : Fld Z h0 a_HasChild "com/example/halyard/halyard/server/ReferenceType" "supertype" "Lcom/example/halyard/halyard/server/ReferenceType;" (.ref a_HierarchicalReferences)) (F_a_HierarchicalReferences_supertype : Fld Z h0 a_HierarchicalReferences "com/example/halyard/halyard/server/ReferenceType" "supertype" "Lcom/example/halyard/halyard/server/ReferenceType;" (.ref a_References)) (F_a_References_supertype : Fld Z h0 a_References "com/example/halyard/halyard/server/ReferenceType" "supertype" "Lcom/example/halyard/halyard/server/ReferenceType;" .null) :
    MetFree l (⟨"com/example/halyard/halyard/server/ReferenceType", "isSubtypeOf", "(Lcom/example/halyard/halyard/server/ReferenceType;)Z"⟩ : MethodName) (head1 (Jvm.Cond.code (⟨"com/example/halyard/halyard/server/ReferenceType", "isSubtypeOf", "(Lcom/example/halyard/halyard/server/ReferenceType;)Z"⟩ : MethodName) prog_116_method_8_code 3 (some .boolean) :: ws) ({ frames := 0, cells := 0, slots := 0, locals := 0 } : Room)) (fun aa UU => aa = #[(.ref a_HasSubtype), (.ref t)] ∧ Z.Warmed39 UU.vm ∧ UU.heap = h0) (fun _ _ _ _ _ => True) (fun _ UU oo U' => ∃ v L, oo = .returned v ∧ Qr (.int (own_b (a_HasSubtype = t ∨ a_HasChild = t ∨ a_HierarchicalReferences = t ∨ a_References = t))) h0 n0 v U'.heap L ∧ FrameEnd UU oo U' L ({ frames := 0, cells := 0, slots := 0, locals := 0 } : Room).cells ({ frames := 0, cells := 0, slots := 0, locals := 0 } : Room).slots) := by
  refine MetFree.of_bodySF (plainFor_of_name pn_1) hisR ?_
  intro p e s m args below meth c s₁ Bd hml0 hP hK
  obtain ⟨rfl, hZ, hh⟩ := hP
  have hx := Bd.exec
  have hby := Bd.bytes
  have hml : c.maxLocals = 3 := hml0
  have hown : s.vm.findClass "com/example/halyard/halyard/server/ReferenceType" = some m.cls := findClass_of_methodNamed Bd.named
  have hnm := (name_of_methodNamed Bd.named Bd.method).1
  have X0 : Stand p l e ({ frames := 0, cells := 0, slots := 0, locals := 0 } : Room) s m #[(.ref a_HasSubtype), (.ref t)] below meth c s₁ [] 0 0 := Stand.of_body Bd
  have e0 : s₁.heap = h0 := by rw [← hh, Bd.state]; rfl
  have N0 := Fr.nil n0
  obtain ⟨A0, hA0⟩ : ∃ A, A = s₁.setTop (entryFrame m #[(.ref a_HasSubtype), (.ref t)] 3) := ⟨_, rfl⟩
  have G0 : Go p e below A0 (s₁.setTop (mkF m 0 #[.val (.ref a_HasSubtype), .val (.ref t), .unset] [])) := fun tq kq => by rw [hA0]; exact castTop (ef_rm3_5 m a_HasSubtype t) kq
  have G160 : Go p e below A0 (s₁.setTop (mkF m 8 #[.val (.ref a_HasSubtype), .val (.ref t), .val (.ref a_HasSubtype)] [(.ref t), (.ref a_HasSubtype)])) := fun tq kq => G0 tq (by
    refine XS.aloadN X0.here hx rfl (hb hby d3_0) rfl rfl ?_
    show Steps p.tables e below (s₁.setTop (mkF m 1 #[.val (.ref a_HasSubtype), .val (.ref t), .unset] [(.ref a_HasSubtype)])) _
    refine XS.astoreN X0.here hx rfl (hb hby d3_1) rfl rfl (l' := #[.val (.ref a_HasSubtype), .val (.ref t), .val (.ref a_HasSubtype)]) rfl ?_
    show Steps p.tables e below (s₁.setTop (mkF m 2 #[.val (.ref a_HasSubtype), .val (.ref t), .val (.ref a_HasSubtype)] [])) _
    refine XS.aloadN X0.here hx rfl (hb hby d3_2) rfl rfl ?_
    show Steps p.tables e below (s₁.setTop (mkF m 3 #[.val (.ref a_HasSubtype), .val (.ref t), .val (.ref a_HasSubtype)] [(.ref a_HasSubtype)])) _
    refine XS.ifnullNo X0.here hx rfl (hb hby d3_3) rfl ?_
    show Steps p.tables e below (s₁.setTop (mkF m 6 #[.val (.ref a_HasSubtype), .val (.ref t), .val (.ref a_HasSubtype)] [])) _
    refine XS.aloadN X0.here hx rfl (hb hby d3_6) rfl rfl ?_
    show Steps p.tables e below (s₁.setTop (mkF m 7 #[.val (.ref a_HasSubtype), .val (.ref t), .val (.ref a_HasSubtype)] [(.ref a_HasSubtype)])) _
    refine XS.aloadN X0.here hx rfl (hb hby d3_7) rfl rfl ?_
    show Steps p.tables e below (s₁.setTop (mkF m 8 #[.val (.ref a_HasSubtype), .val (.ref t), .val (.ref a_HasSubtype)] [(.ref t), (.ref a_HasSubtype)])) _
    exact kq)
  by_cases hc161 : a_HasSubtype = t
  · have G162 : Go p e below A0 (s₁.setTop (mkF m 29 #[.val (.ref a_HasSubtype), .val (.ref t), .val (.ref a_HasSubtype)] [(.int (1 : Int32))])) := fun tq kq => G160 tq (by
      refine Jvm.RoadKit.acmp (g := (mkF m 8 #[.val (.ref a_HasSubtype), .val (.ref t), .val (.ref a_HasSubtype)] [(.ref t), (.ref a_HasSubtype)])) X0 hx rfl rfl rfl (pc0 := 8) (pc' := 19) (same := true) rfl (hb hby d3_8) rfl (decide_eq_true (congrArg Value.ref hc161)) (by decide) (by decide) ?_
      show Steps p.tables e below (s₁.setTop (mkF m 19 #[.val (.ref a_HasSubtype), .val (.ref t), .val (.ref a_HasSubtype)] [])) _
      refine XS.aloadN X0.here hx rfl (hb hby d3_19) rfl rfl ?_
      show Steps p.tables e below (s₁.setTop (mkF m 20 #[.val (.ref a_HasSubtype), .val (.ref t), .val (.ref a_HasSubtype)] [(.ref a_HasSubtype)])) _
      refine XS.aloadN X0.here hx rfl (hb hby d3_20) rfl rfl ?_
      show Steps p.tables e below (s₁.setTop (mkF m 21 #[.val (.ref a_HasSubtype), .val (.ref t), .val (.ref a_HasSubtype)] [(.ref t), (.ref a_HasSubtype)])) _
      refine Jvm.RoadKit.acmp (g := (mkF m 21 #[.val (.ref a_HasSubtype), .val (.ref t), .val (.ref a_HasSubtype)] [(.ref t), (.ref a_HasSubtype)])) X0 hx rfl rfl rfl (pc0 := 21) (pc' := 24) (same := true) rfl (hb hby d3_21) rfl (decide_eq_true (congrArg Value.ref hc161)) (by decide) (by decide) ?_
      show Steps p.tables e below (s₁.setTop (mkF m 24 #[.val (.ref a_HasSubtype), .val (.ref t), .val (.ref a_HasSubtype)] [])) _
      refine XS.iconst X0.here hx rfl (hb hby d3_24) ?_
      show Steps p.tables e below (s₁.setTop (mkF m 25 #[.val (.ref a_HasSubtype), .val (.ref t), .val (.ref a_HasSubtype)] [(.int (1 : Int32))])) _
      refine XS.goto X0.here hx rfl (pc0 := 25) (pc' := 29) rfl (hb hby d3_25) (by decide) (by decide) ?_
      show Steps p.tables e below (s₁.setTop (mkF m 29 #[.val (.ref a_HasSubtype), .val (.ref t), .val (.ref a_HasSubtype)] [(.int (1 : Int32))])) _
      exact kq)
    obtain ⟨fs, hr, hrun, hended, hW, hsame⟩ := X0.leave (v := some (.int (nar .boolean (1 : Int32)))) (fun h => by rw [Bd.returns] at h; cases h)
    refine ⟨_, _, (by rw [← hA0]; exact G162 _ (retN X0 hx (t := .boolean) Bd.returns (by simp) (hb hby d3_29) hr)), hrun, hended, _, _, rfl, ?_, ⟨_, rfl⟩, hW, hsame.mono (by decide) (by decide)⟩
    exact ⟨(by rw [show own_b (a_HasSubtype = t ∨ a_HasChild = t ∨ a_HierarchicalReferences = t ∨ a_References = t) = (1 : Int32) from by simp [own_b, hc161]]; rfl), N0, e0⟩
  · have G163 : Go p e below A0 (s₁.setTop (mkF m 12 #[.val (.ref a_HasSubtype), .val (.ref t), .val (.ref a_HasSubtype)] [(.ref a_HasSubtype)])) := fun tq kq => G160 tq (by
      refine Jvm.RoadKit.acmp (g := (mkF m 8 #[.val (.ref a_HasSubtype), .val (.ref t), .val (.ref a_HasSubtype)] [(.ref t), (.ref a_HasSubtype)])) X0 hx rfl rfl rfl (pc0 := 8) (pc' := 11) (same := false) rfl (hb hby d3_8) rfl (decide_eq_false fun q => hc161 (Value.ref.inj q)) (by decide) (by decide) ?_
      show Steps p.tables e below (s₁.setTop (mkF m 11 #[.val (.ref a_HasSubtype), .val (.ref t), .val (.ref a_HasSubtype)] [])) _
      refine XS.aloadN X0.here hx rfl (hb hby d3_11) rfl rfl ?_
      show Steps p.tables e below (s₁.setTop (mkF m 12 #[.val (.ref a_HasSubtype), .val (.ref t), .val (.ref a_HasSubtype)] [(.ref a_HasSubtype)])) _
      exact kq)
    obtain ⟨T164, X164, e164, st164⟩ := getF X0 hx hZ hown (host := "") (Or.inl (hw _ (List.mem_of_getElem? (i := 18) rfl))) Via.refl e0 F_a_HasSubtype_supertype (g := (mkF m 12 #[.val (.ref a_HasSubtype), .val (.ref t), .val (.ref a_HasSubtype)] [(.ref a_HasSubtype)])) rfl rfl (hb hby d3_12)
    have G165 : Go p e below A0 (T164.setTop (mkF m 15 #[.val (.ref a_HasSubtype), .val (.ref t), .val (.ref a_HasSubtype)] [(.ref a_HasChild)])) := fun tq kq => G163 tq (st164 _ kq)
    have G166 : Go p e below A0 (T164.setTop (mkF m 8 #[.val (.ref a_HasSubtype), .val (.ref t), .val (.ref a_HasChild)] [(.ref t), (.ref a_HasChild)])) := fun tq kq => G165 tq (by
      refine XS.astoreN X164.here hx rfl (hb hby d3_15) rfl rfl (l' := #[.val (.ref a_HasSubtype), .val (.ref t), .val (.ref a_HasChild)]) rfl ?_
      show Steps p.tables e below (T164.setTop (mkF m 16 #[.val (.ref a_HasSubtype), .val (.ref t), .val (.ref a_HasChild)] [])) _
      refine XS.goto X164.here hx rfl (pc0 := 16) (pc' := 2) rfl (hb hby d3_16) (by decide) (by decide) ?_
      show Steps p.tables e below (T164.setTop (mkF m 2 #[.val (.ref a_HasSubtype), .val (.ref t), .val (.ref a_HasChild)] [])) _
      refine XS.aloadN X164.here hx rfl (hb hby d3_2) rfl rfl ?_
      show Steps p.tables e below (T164.setTop (mkF m 3 #[.val (.ref a_HasSubtype), .val (.ref t), .val (.ref a_HasChild)] [(.ref a_HasChild)])) _
      refine XS.ifnullNo X164.here hx rfl (hb hby d3_3) rfl ?_
      show Steps p.tables e below (T164.setTop (mkF m 6 #[.val (.ref a_HasSubtype), .val (.ref t), .val (.ref a_HasChild)] [])) _
      refine XS.aloadN X164.here hx rfl (hb hby d3_6) rfl rfl ?_
      show Steps p.tables e below (T164.setTop (mkF m 7 #[.val (.ref a_HasSubtype), .val (.ref t), .val (.ref a_HasChild)] [(.ref a_HasChild)])) _
      refine XS.aloadN X164.here hx rfl (hb hby d3_7) rfl rfl ?_
      show Steps p.tables e below (T164.setTop (mkF m 8 #[.val (.ref a_HasSubtype), .val (.ref t), .val (.ref a_HasChild)] [(.ref t), (.ref a_HasChild)])) _
      exact kq)
    by_cases hc167 : a_HasChild = t
    · have G168 : Go p e below A0 (T164.setTop (mkF m 29 #[.val (.ref a_HasSubtype), .val (.ref t), .val (.ref a_HasChild)] [(.int (1 : Int32))])) := fun tq kq => G166 tq (by
        refine Jvm.RoadKit.acmp (g := (mkF m 8 #[.val (.ref a_HasSubtype), .val (.ref t), .val (.ref a_HasChild)] [(.ref t), (.ref a_HasChild)])) X164 hx rfl rfl rfl (pc0 := 8) (pc' := 19) (same := true) rfl (hb hby d3_8) rfl (decide_eq_true (congrArg Value.ref hc167)) (by decide) (by decide) ?_
        show Steps p.tables e below (T164.setTop (mkF m 19 #[.val (.ref a_HasSubtype), .val (.ref t), .val (.ref a_HasChild)] [])) _
        refine XS.aloadN X164.here hx rfl (hb hby d3_19) rfl rfl ?_
        show Steps p.tables e below (T164.setTop (mkF m 20 #[.val (.ref a_HasSubtype), .val (.ref t), .val (.ref a_HasChild)] [(.ref a_HasChild)])) _
        refine XS.aloadN X164.here hx rfl (hb hby d3_20) rfl rfl ?_
        show Steps p.tables e below (T164.setTop (mkF m 21 #[.val (.ref a_HasSubtype), .val (.ref t), .val (.ref a_HasChild)] [(.ref t), (.ref a_HasChild)])) _
        refine Jvm.RoadKit.acmp (g := (mkF m 21 #[.val (.ref a_HasSubtype), .val (.ref t), .val (.ref a_HasChild)] [(.ref t), (.ref a_HasChild)])) X164 hx rfl rfl rfl (pc0 := 21) (pc' := 24) (same := true) rfl (hb hby d3_21) rfl (decide_eq_true (congrArg Value.ref hc167)) (by decide) (by decide) ?_
        show Steps p.tables e below (T164.setTop (mkF m 24 #[.val (.ref a_HasSubtype), .val (.ref t), .val (.ref a_HasChild)] [])) _
        refine XS.iconst X164.here hx rfl (hb hby d3_24) ?_
        show Steps p.tables e below (T164.setTop (mkF m 25 #[.val (.ref a_HasSubtype), .val (.ref t), .val (.ref a_HasChild)] [(.int (1 : Int32))])) _
        refine XS.goto X164.here hx rfl (pc0 := 25) (pc' := 29) rfl (hb hby d3_25) (by decide) (by decide) ?_
        show Steps p.tables e below (T164.setTop (mkF m 29 #[.val (.ref a_HasSubtype), .val (.ref t), .val (.ref a_HasChild)] [(.int (1 : Int32))])) _
        exact kq)
      obtain ⟨fs, hr, hrun, hended, hW, hsame⟩ := X164.leave (v := some (.int (nar .boolean (1 : Int32)))) (fun h => by rw [Bd.returns] at h; cases h)
      refine ⟨_, _, (by rw [← hA0]; exact G168 _ (retN X164 hx (t := .boolean) Bd.returns (by simp) (hb hby d3_29) hr)), hrun, hended, _, _, rfl, ?_, ⟨_, rfl⟩, hW, hsame.mono (by decide) (by decide)⟩
      exact ⟨(by rw [show own_b (a_HasSubtype = t ∨ a_HasChild = t ∨ a_HierarchicalReferences = t ∨ a_References = t) = (1 : Int32) from by simp [own_b, hc161, hc167]]; rfl), N0, e164⟩
    · have G169 : Go p e below A0 (T164.setTop (mkF m 12 #[.val (.ref a_HasSubtype), .val (.ref t), .val (.ref a_HasChild)] [(.ref a_HasChild)])) := fun tq kq => G166 tq (by
        refine Jvm.RoadKit.acmp (g := (mkF m 8 #[.val (.ref a_HasSubtype), .val (.ref t), .val (.ref a_HasChild)] [(.ref t), (.ref a_HasChild)])) X164 hx rfl rfl rfl (pc0 := 8) (pc' := 11) (same := false) rfl (hb hby d3_8) rfl (decide_eq_false fun q => hc167 (Value.ref.inj q)) (by decide) (by decide) ?_
        show Steps p.tables e below (T164.setTop (mkF m 11 #[.val (.ref a_HasSubtype), .val (.ref t), .val (.ref a_HasChild)] [])) _
        refine XS.aloadN X164.here hx rfl (hb hby d3_11) rfl rfl ?_
        show Steps p.tables e below (T164.setTop (mkF m 12 #[.val (.ref a_HasSubtype), .val (.ref t), .val (.ref a_HasChild)] [(.ref a_HasChild)])) _
        exact kq)
      obtain ⟨T170, X170, e170, st170⟩ := getF X164 hx hZ hown (host := "") (Or.inl (hw _ (List.mem_of_getElem? (i := 18) rfl))) Via.refl e164 F_a_HasChild_supertype (g := (mkF m 12 #[.val (.ref a_HasSubtype), .val (.ref t), .val (.ref a_HasChild)] [(.ref a_HasChild)])) rfl rfl (hb hby d3_12)
      have G171 : Go p e below A0 (T170.setTop (mkF m 15 #[.val (.ref a_HasSubtype), .val (.ref t), .val (.ref a_HasChild)] [(.ref a_HierarchicalReferences)])) := fun tq kq => G169 tq (st170 _ kq)
      have G172 : Go p e below A0 (T170.setTop (mkF m 8 #[.val (.ref a_HasSubtype), .val (.ref t), .val (.ref a_HierarchicalReferences)] [(.ref t), (.ref a_HierarchicalReferences)])) := fun tq kq => G171 tq (by
        refine XS.astoreN X170.here hx rfl (hb hby d3_15) rfl rfl (l' := #[.val (.ref a_HasSubtype), .val (.ref t), .val (.ref a_HierarchicalReferences)]) rfl ?_
        show Steps p.tables e below (T170.setTop (mkF m 16 #[.val (.ref a_HasSubtype), .val (.ref t), .val (.ref a_HierarchicalReferences)] [])) _
        refine XS.goto X170.here hx rfl (pc0 := 16) (pc' := 2) rfl (hb hby d3_16) (by decide) (by decide) ?_
        show Steps p.tables e below (T170.setTop (mkF m 2 #[.val (.ref a_HasSubtype), .val (.ref t), .val (.ref a_HierarchicalReferences)] [])) _
        refine XS.aloadN X170.here hx rfl (hb hby d3_2) rfl rfl ?_
        show Steps p.tables e below (T170.setTop (mkF m 3 #[.val (.ref a_HasSubtype), .val (.ref t), .val (.ref a_HierarchicalReferences)] [(.ref a_HierarchicalReferences)])) _
        refine XS.ifnullNo X170.here hx rfl (hb hby d3_3) rfl ?_
        show Steps p.tables e below (T170.setTop (mkF m 6 #[.val (.ref a_HasSubtype), .val (.ref t), .val (.ref a_HierarchicalReferences)] [])) _
        refine XS.aloadN X170.here hx rfl (hb hby d3_6) rfl rfl ?_
        show Steps p.tables e below (T170.setTop (mkF m 7 #[.val (.ref a_HasSubtype), .val (.ref t), .val (.ref a_HierarchicalReferences)] [(.ref a_HierarchicalReferences)])) _
        refine XS.aloadN X170.here hx rfl (hb hby d3_7) rfl rfl ?_
        show Steps p.tables e below (T170.setTop (mkF m 8 #[.val (.ref a_HasSubtype), .val (.ref t), .val (.ref a_HierarchicalReferences)] [(.ref t), (.ref a_HierarchicalReferences)])) _
        exact kq)
      by_cases hc173 : a_HierarchicalReferences = t
      · have G174 : Go p e below A0 (T170.setTop (mkF m 29 #[.val (.ref a_HasSubtype), .val (.ref t), .val (.ref a_HierarchicalReferences)] [(.int (1 : Int32))])) := fun tq kq => G172 tq (by
          refine Jvm.RoadKit.acmp (g := (mkF m 8 #[.val (.ref a_HasSubtype), .val (.ref t), .val (.ref a_HierarchicalReferences)] [(.ref t), (.ref a_HierarchicalReferences)])) X170 hx rfl rfl rfl (pc0 := 8) (pc' := 19) (same := true) rfl (hb hby d3_8) rfl (decide_eq_true (congrArg Value.ref hc173)) (by decide) (by decide) ?_
          show Steps p.tables e below (T170.setTop (mkF m 19 #[.val (.ref a_HasSubtype), .val (.ref t), .val (.ref a_HierarchicalReferences)] [])) _
          refine XS.aloadN X170.here hx rfl (hb hby d3_19) rfl rfl ?_
          show Steps p.tables e below (T170.setTop (mkF m 20 #[.val (.ref a_HasSubtype), .val (.ref t), .val (.ref a_HierarchicalReferences)] [(.ref a_HierarchicalReferences)])) _
          refine XS.aloadN X170.here hx rfl (hb hby d3_20) rfl rfl ?_
          show Steps p.tables e below (T170.setTop (mkF m 21 #[.val (.ref a_HasSubtype), .val (.ref t), .val (.ref a_HierarchicalReferences)] [(.ref t), (.ref a_HierarchicalReferences)])) _
          refine Jvm.RoadKit.acmp (g := (mkF m 21 #[.val (.ref a_HasSubtype), .val (.ref t), .val (.ref a_HierarchicalReferences)] [(.ref t), (.ref a_HierarchicalReferences)])) X170 hx rfl rfl rfl (pc0 := 21) (pc' := 24) (same := true) rfl (hb hby d3_21) rfl (decide_eq_true (congrArg Value.ref hc173)) (by decide) (by decide) ?_
          show Steps p.tables e below (T170.setTop (mkF m 24 #[.val (.ref a_HasSubtype), .val (.ref t), .val (.ref a_HierarchicalReferences)] [])) _
          refine XS.iconst X170.here hx rfl (hb hby d3_24) ?_
          show Steps p.tables e below (T170.setTop (mkF m 25 #[.val (.ref a_HasSubtype), .val (.ref t), .val (.ref a_HierarchicalReferences)] [(.int (1 : Int32))])) _
          refine XS.goto X170.here hx rfl (pc0 := 25) (pc' := 29) rfl (hb hby d3_25) (by decide) (by decide) ?_
          show Steps p.tables e below (T170.setTop (mkF m 29 #[.val (.ref a_HasSubtype), .val (.ref t), .val (.ref a_HierarchicalReferences)] [(.int (1 : Int32))])) _
          exact kq)
        obtain ⟨fs, hr, hrun, hended, hW, hsame⟩ := X170.leave (v := some (.int (nar .boolean (1 : Int32)))) (fun h => by rw [Bd.returns] at h; cases h)
        refine ⟨_, _, (by rw [← hA0]; exact G174 _ (retN X170 hx (t := .boolean) Bd.returns (by simp) (hb hby d3_29) hr)), hrun, hended, _, _, rfl, ?_, ⟨_, rfl⟩, hW, hsame.mono (by decide) (by decide)⟩
        exact ⟨(by rw [show own_b (a_HasSubtype = t ∨ a_HasChild = t ∨ a_HierarchicalReferences = t ∨ a_References = t) = (1 : Int32) from by simp [own_b, hc161, hc167, hc173]]; rfl), N0, e170⟩
      · have G175 : Go p e below A0 (T170.setTop (mkF m 12 #[.val (.ref a_HasSubtype), .val (.ref t), .val (.ref a_HierarchicalReferences)] [(.ref a_HierarchicalReferences)])) := fun tq kq => G172 tq (by
          refine Jvm.RoadKit.acmp (g := (mkF m 8 #[.val (.ref a_HasSubtype), .val (.ref t), .val (.ref a_HierarchicalReferences)] [(.ref t), (.ref a_HierarchicalReferences)])) X170 hx rfl rfl rfl (pc0 := 8) (pc' := 11) (same := false) rfl (hb hby d3_8) rfl (decide_eq_false fun q => hc173 (Value.ref.inj q)) (by decide) (by decide) ?_
          show Steps p.tables e below (T170.setTop (mkF m 11 #[.val (.ref a_HasSubtype), .val (.ref t), .val (.ref a_HierarchicalReferences)] [])) _
          refine XS.aloadN X170.here hx rfl (hb hby d3_11) rfl rfl ?_
          show Steps p.tables e below (T170.setTop (mkF m 12 #[.val (.ref a_HasSubtype), .val (.ref t), .val (.ref a_HierarchicalReferences)] [(.ref a_HierarchicalReferences)])) _
          exact kq)
        obtain ⟨T176, X176, e176, st176⟩ := getF X170 hx hZ hown (host := "") (Or.inl (hw _ (List.mem_of_getElem? (i := 18) rfl))) Via.refl e170 F_a_HierarchicalReferences_supertype (g := (mkF m 12 #[.val (.ref a_HasSubtype), .val (.ref t), .val (.ref a_HierarchicalReferences)] [(.ref a_HierarchicalReferences)])) rfl rfl (hb hby d3_12)
        have G177 : Go p e below A0 (T176.setTop (mkF m 15 #[.val (.ref a_HasSubtype), .val (.ref t), .val (.ref a_HierarchicalReferences)] [(.ref a_References)])) := fun tq kq => G175 tq (st176 _ kq)
        have G178 : Go p e below A0 (T176.setTop (mkF m 8 #[.val (.ref a_HasSubtype), .val (.ref t), .val (.ref a_References)] [(.ref t), (.ref a_References)])) := fun tq kq => G177 tq (by
          refine XS.astoreN X176.here hx rfl (hb hby d3_15) rfl rfl (l' := #[.val (.ref a_HasSubtype), .val (.ref t), .val (.ref a_References)]) rfl ?_
          show Steps p.tables e below (T176.setTop (mkF m 16 #[.val (.ref a_HasSubtype), .val (.ref t), .val (.ref a_References)] [])) _
          refine XS.goto X176.here hx rfl (pc0 := 16) (pc' := 2) rfl (hb hby d3_16) (by decide) (by decide) ?_
          show Steps p.tables e below (T176.setTop (mkF m 2 #[.val (.ref a_HasSubtype), .val (.ref t), .val (.ref a_References)] [])) _
          refine XS.aloadN X176.here hx rfl (hb hby d3_2) rfl rfl ?_
          show Steps p.tables e below (T176.setTop (mkF m 3 #[.val (.ref a_HasSubtype), .val (.ref t), .val (.ref a_References)] [(.ref a_References)])) _
          refine XS.ifnullNo X176.here hx rfl (hb hby d3_3) rfl ?_
          show Steps p.tables e below (T176.setTop (mkF m 6 #[.val (.ref a_HasSubtype), .val (.ref t), .val (.ref a_References)] [])) _
          refine XS.aloadN X176.here hx rfl (hb hby d3_6) rfl rfl ?_
          show Steps p.tables e below (T176.setTop (mkF m 7 #[.val (.ref a_HasSubtype), .val (.ref t), .val (.ref a_References)] [(.ref a_References)])) _
          refine XS.aloadN X176.here hx rfl (hb hby d3_7) rfl rfl ?_
          show Steps p.tables e below (T176.setTop (mkF m 8 #[.val (.ref a_HasSubtype), .val (.ref t), .val (.ref a_References)] [(.ref t), (.ref a_References)])) _
          exact kq)
        by_cases hc179 : a_References = t
        · have G180 : Go p e below A0 (T176.setTop (mkF m 29 #[.val (.ref a_HasSubtype), .val (.ref t), .val (.ref a_References)] [(.int (1 : Int32))])) := fun tq kq => G178 tq (by
            refine Jvm.RoadKit.acmp (g := (mkF m 8 #[.val (.ref a_HasSubtype), .val (.ref t), .val (.ref a_References)] [(.ref t), (.ref a_References)])) X176 hx rfl rfl rfl (pc0 := 8) (pc' := 19) (same := true) rfl (hb hby d3_8) rfl (decide_eq_true (congrArg Value.ref hc179)) (by decide) (by decide) ?_
            show Steps p.tables e below (T176.setTop (mkF m 19 #[.val (.ref a_HasSubtype), .val (.ref t), .val (.ref a_References)] [])) _
            refine XS.aloadN X176.here hx rfl (hb hby d3_19) rfl rfl ?_
            show Steps p.tables e below (T176.setTop (mkF m 20 #[.val (.ref a_HasSubtype), .val (.ref t), .val (.ref a_References)] [(.ref a_References)])) _
            refine XS.aloadN X176.here hx rfl (hb hby d3_20) rfl rfl ?_
            show Steps p.tables e below (T176.setTop (mkF m 21 #[.val (.ref a_HasSubtype), .val (.ref t), .val (.ref a_References)] [(.ref t), (.ref a_References)])) _
            refine Jvm.RoadKit.acmp (g := (mkF m 21 #[.val (.ref a_HasSubtype), .val (.ref t), .val (.ref a_References)] [(.ref t), (.ref a_References)])) X176 hx rfl rfl rfl (pc0 := 21) (pc' := 24) (same := true) rfl (hb hby d3_21) rfl (decide_eq_true (congrArg Value.ref hc179)) (by decide) (by decide) ?_
            show Steps p.tables e below (T176.setTop (mkF m 24 #[.val (.ref a_HasSubtype), .val (.ref t), .val (.ref a_References)] [])) _
            refine XS.iconst X176.here hx rfl (hb hby d3_24) ?_
            show Steps p.tables e below (T176.setTop (mkF m 25 #[.val (.ref a_HasSubtype), .val (.ref t), .val (.ref a_References)] [(.int (1 : Int32))])) _
            refine XS.goto X176.here hx rfl (pc0 := 25) (pc' := 29) rfl (hb hby d3_25) (by decide) (by decide) ?_
            show Steps p.tables e below (T176.setTop (mkF m 29 #[.val (.ref a_HasSubtype), .val (.ref t), .val (.ref a_References)] [(.int (1 : Int32))])) _
            exact kq)
          obtain ⟨fs, hr, hrun, hended, hW, hsame⟩ := X176.leave (v := some (.int (nar .boolean (1 : Int32)))) (fun h => by rw [Bd.returns] at h; cases h)
          refine ⟨_, _, (by rw [← hA0]; exact G180 _ (retN X176 hx (t := .boolean) Bd.returns (by simp) (hb hby d3_29) hr)), hrun, hended, _, _, rfl, ?_, ⟨_, rfl⟩, hW, hsame.mono (by decide) (by decide)⟩
          exact ⟨(by rw [show own_b (a_HasSubtype = t ∨ a_HasChild = t ∨ a_HierarchicalReferences = t ∨ a_References = t) = (1 : Int32) from by simp [own_b, hc161, hc167, hc173, hc179]]; rfl), N0, e176⟩
        · have G181 : Go p e below A0 (T176.setTop (mkF m 12 #[.val (.ref a_HasSubtype), .val (.ref t), .val (.ref a_References)] [(.ref a_References)])) := fun tq kq => G178 tq (by
            refine Jvm.RoadKit.acmp (g := (mkF m 8 #[.val (.ref a_HasSubtype), .val (.ref t), .val (.ref a_References)] [(.ref t), (.ref a_References)])) X176 hx rfl rfl rfl (pc0 := 8) (pc' := 11) (same := false) rfl (hb hby d3_8) rfl (decide_eq_false fun q => hc179 (Value.ref.inj q)) (by decide) (by decide) ?_
            show Steps p.tables e below (T176.setTop (mkF m 11 #[.val (.ref a_HasSubtype), .val (.ref t), .val (.ref a_References)] [])) _
            refine XS.aloadN X176.here hx rfl (hb hby d3_11) rfl rfl ?_
            show Steps p.tables e below (T176.setTop (mkF m 12 #[.val (.ref a_HasSubtype), .val (.ref t), .val (.ref a_References)] [(.ref a_References)])) _
            exact kq)
          obtain ⟨T182, X182, e182, st182⟩ := getF X176 hx hZ hown (host := "") (Or.inl (hw _ (List.mem_of_getElem? (i := 18) rfl))) Via.refl e176 F_a_References_supertype (g := (mkF m 12 #[.val (.ref a_HasSubtype), .val (.ref t), .val (.ref a_References)] [(.ref a_References)])) rfl rfl (hb hby d3_12)
          have G183 : Go p e below A0 (T182.setTop (mkF m 15 #[.val (.ref a_HasSubtype), .val (.ref t), .val (.ref a_References)] [.null])) := fun tq kq => G181 tq (st182 _ kq)
          have G184 : Go p e below A0 (T182.setTop (mkF m 29 #[.val (.ref a_HasSubtype), .val (.ref t), .val .null] [(.int (0 : Int32))])) := fun tq kq => G183 tq (by
            refine XS.astoreN X182.here hx rfl (hb hby d3_15) rfl rfl (l' := #[.val (.ref a_HasSubtype), .val (.ref t), .val .null]) rfl ?_
            show Steps p.tables e below (T182.setTop (mkF m 16 #[.val (.ref a_HasSubtype), .val (.ref t), .val .null] [])) _
            refine XS.goto X182.here hx rfl (pc0 := 16) (pc' := 2) rfl (hb hby d3_16) (by decide) (by decide) ?_
            show Steps p.tables e below (T182.setTop (mkF m 2 #[.val (.ref a_HasSubtype), .val (.ref t), .val .null] [])) _
            refine XS.aloadN X182.here hx rfl (hb hby d3_2) rfl rfl ?_
            show Steps p.tables e below (T182.setTop (mkF m 3 #[.val (.ref a_HasSubtype), .val (.ref t), .val .null] [.null])) _
            refine XS.ifnullYes X182.here hx rfl (pc0 := 3) (pc' := 19) rfl (hb hby d3_3) rfl (by decide) (by decide) ?_
            show Steps p.tables e below (T182.setTop (mkF m 19 #[.val (.ref a_HasSubtype), .val (.ref t), .val .null] [])) _
            refine XS.aloadN X182.here hx rfl (hb hby d3_19) rfl rfl ?_
            show Steps p.tables e below (T182.setTop (mkF m 20 #[.val (.ref a_HasSubtype), .val (.ref t), .val .null] [.null])) _
            refine XS.aloadN X182.here hx rfl (hb hby d3_20) rfl rfl ?_
            show Steps p.tables e below (T182.setTop (mkF m 21 #[.val (.ref a_HasSubtype), .val (.ref t), .val .null] [(.ref t), .null])) _
            refine Jvm.RoadKit.acmp (g := (mkF m 21 #[.val (.ref a_HasSubtype), .val (.ref t), .val .null] [(.ref t), .null])) X182 hx rfl rfl rfl (pc0 := 21) (pc' := 28) (same := false) rfl (hb hby d3_21) rfl (decide_eq_false nofun) (by decide) (by decide) ?_
            show Steps p.tables e below (T182.setTop (mkF m 28 #[.val (.ref a_HasSubtype), .val (.ref t), .val .null] [])) _
            refine XS.iconst X182.here hx rfl (hb hby d3_28) ?_
            show Steps p.tables e below (T182.setTop (mkF m 29 #[.val (.ref a_HasSubtype), .val (.ref t), .val .null] [(.int (0 : Int32))])) _
            exact kq)
          obtain ⟨fs, hr, hrun, hended, hW, hsame⟩ := X182.leave (v := some (.int (nar .boolean (0 : Int32)))) (fun h => by rw [Bd.returns] at h; cases h)
          refine ⟨_, _, (by rw [← hA0]; exact G184 _ (retN X182 hx (t := .boolean) Bd.returns (by simp) (hb hby d3_29) hr)), hrun, hended, _, _, rfl, ?_, ⟨_, rfl⟩, hW, hsame.mono (by decide) (by decide)⟩
          exact ⟨(by rw [show own_b (a_HasSubtype = t ∨ a_HasChild = t ∨ a_HierarchicalReferences = t ∨ a_References = t) = (0 : Int32) from by simp [own_b, hc161, hc167, hc173, hc179]]; rfl), N0, e182⟩
set_option maxRecDepth 65536 in
set_option maxHeartbeats 40000000 in
theorem rm3_6 (l : Launch) (Z : State) (a0 : Array Value) (hw : ∀ d ∈ tables_1, d.before a0 Z = true) (ws : List Jvm.Cond) (a_HasProperty a_Aggregates a_HasChild a_HierarchicalReferences a_References t : Addr) (h0 : Heap) (n0 : Nat) (Z0 : n0 ≤ h0.size) (F_a_HasProperty_supertype : Fld Z h0 a_HasProperty "com/example/halyard/halyard/server/ReferenceType" "supertype" "Lcom/example/halyard/halyard/server/ReferenceType;" (.ref a_Aggregates)) (F_a_Aggregates_supertype : Fld Z h0 a_Aggregates "com/example/halyard/halyard/server/ReferenceType" "supertype" "Lcom/example/halyard/halyard/server/ReferenceType;" (.ref a_HasChild)) (F_a_HasChild_supertype : Fld Z h0 a_HasChild "com/example/halyard/halyard/server/ReferenceType" "supertype" "Lcom/example/halyard/halyard/server/ReferenceType;" (.ref a_HierarchicalReferences)) (F_a_HierarchicalReferences_supertype : Fld Z h0 a_HierarchicalReferences "com/example/halyard/halyard/server/ReferenceType" "supertype" "Lcom/example/halyard/halyard/server/ReferenceType;" (.ref a_References)) (F_a_References_supertype : Fld Z h0 a_References "com/example/halyard/halyard/server/ReferenceType" "supertype" "Lcom/example/halyard/halyard/server/ReferenceType;" .null) :
    MetFree l (⟨"com/example/halyard/halyard/server/ReferenceType", "isSubtypeOf", "(Lcom/example/halyard/halyard/server/ReferenceType;)Z"⟩ : MethodName) (head1 (Jvm.Cond.code (⟨"com/example/halyard/halyard/server/ReferenceType", "isSubtypeOf", "(Lcom/example/halyard/halyard/server/ReferenceType;)Z"⟩ : MethodName) prog_116_method_8_code 3 (some .boolean) :: ws) ({ frames := 0, cells := 0, slots := 0, locals := 0 } : Room)) (fun aa UU => aa = #[(.ref a_HasProperty), (.ref t)] ∧ Z.Warmed39 UU.vm ∧ UU.heap = h0) (fun _ _ _ _ _ => True) (fun _ UU oo U' => ∃ v L, oo = .returned v ∧ Qr (.int (own_b (a_HasProperty = t ∨ a_Aggregates = t ∨ a_HasChild = t ∨ a_HierarchicalReferences = t ∨ a_References = t))) h0 n0 v U'.heap L ∧ FrameEnd UU oo U' L ({ frames := 0, cells := 0, slots := 0, locals := 0 } : Room).cells ({ frames := 0, cells := 0, slots := 0, locals := 0 } : Room).slots) := by
  refine MetFree.of_bodySF (plainFor_of_name pn_1) hisR ?_
  intro p e s m args below meth c s₁ Bd hml0 hP hK
  obtain ⟨rfl, hZ, hh⟩ := hP
  have hx := Bd.exec
  have hby := Bd.bytes
  have hml : c.maxLocals = 3 := hml0
  have hown : s.vm.findClass "com/example/halyard/halyard/server/ReferenceType" = some m.cls := findClass_of_methodNamed Bd.named
  have hnm := (name_of_methodNamed Bd.named Bd.method).1
  have X0 : Stand p l e ({ frames := 0, cells := 0, slots := 0, locals := 0 } : Room) s m #[(.ref a_HasProperty), (.ref t)] below meth c s₁ [] 0 0 := Stand.of_body Bd
  have e0 : s₁.heap = h0 := by rw [← hh, Bd.state]; rfl
  have N0 := Fr.nil n0
  obtain ⟨A0, hA0⟩ : ∃ A, A = s₁.setTop (entryFrame m #[(.ref a_HasProperty), (.ref t)] 3) := ⟨_, rfl⟩
  have G0 : Go p e below A0 (s₁.setTop (mkF m 0 #[.val (.ref a_HasProperty), .val (.ref t), .unset] [])) := fun tq kq => by rw [hA0]; exact castTop (ef_rm3_6 m a_HasProperty t) kq
  have G185 : Go p e below A0 (s₁.setTop (mkF m 8 #[.val (.ref a_HasProperty), .val (.ref t), .val (.ref a_HasProperty)] [(.ref t), (.ref a_HasProperty)])) := fun tq kq => G0 tq (by
    refine XS.aloadN X0.here hx rfl (hb hby d3_0) rfl rfl ?_
    show Steps p.tables e below (s₁.setTop (mkF m 1 #[.val (.ref a_HasProperty), .val (.ref t), .unset] [(.ref a_HasProperty)])) _
    refine XS.astoreN X0.here hx rfl (hb hby d3_1) rfl rfl (l' := #[.val (.ref a_HasProperty), .val (.ref t), .val (.ref a_HasProperty)]) rfl ?_
    show Steps p.tables e below (s₁.setTop (mkF m 2 #[.val (.ref a_HasProperty), .val (.ref t), .val (.ref a_HasProperty)] [])) _
    refine XS.aloadN X0.here hx rfl (hb hby d3_2) rfl rfl ?_
    show Steps p.tables e below (s₁.setTop (mkF m 3 #[.val (.ref a_HasProperty), .val (.ref t), .val (.ref a_HasProperty)] [(.ref a_HasProperty)])) _
    refine XS.ifnullNo X0.here hx rfl (hb hby d3_3) rfl ?_
    show Steps p.tables e below (s₁.setTop (mkF m 6 #[.val (.ref a_HasProperty), .val (.ref t), .val (.ref a_HasProperty)] [])) _
    refine XS.aloadN X0.here hx rfl (hb hby d3_6) rfl rfl ?_
    show Steps p.tables e below (s₁.setTop (mkF m 7 #[.val (.ref a_HasProperty), .val (.ref t), .val (.ref a_HasProperty)] [(.ref a_HasProperty)])) _
    refine XS.aloadN X0.here hx rfl (hb hby d3_7) rfl rfl ?_
    show Steps p.tables e below (s₁.setTop (mkF m 8 #[.val (.ref a_HasProperty), .val (.ref t), .val (.ref a_HasProperty)] [(.ref t), (.ref a_HasProperty)])) _
    exact kq)
  by_cases hc186 : a_HasProperty = t
  · have G187 : Go p e below A0 (s₁.setTop (mkF m 29 #[.val (.ref a_HasProperty), .val (.ref t), .val (.ref a_HasProperty)] [(.int (1 : Int32))])) := fun tq kq => G185 tq (by
      refine Jvm.RoadKit.acmp (g := (mkF m 8 #[.val (.ref a_HasProperty), .val (.ref t), .val (.ref a_HasProperty)] [(.ref t), (.ref a_HasProperty)])) X0 hx rfl rfl rfl (pc0 := 8) (pc' := 19) (same := true) rfl (hb hby d3_8) rfl (decide_eq_true (congrArg Value.ref hc186)) (by decide) (by decide) ?_
      show Steps p.tables e below (s₁.setTop (mkF m 19 #[.val (.ref a_HasProperty), .val (.ref t), .val (.ref a_HasProperty)] [])) _
      refine XS.aloadN X0.here hx rfl (hb hby d3_19) rfl rfl ?_
      show Steps p.tables e below (s₁.setTop (mkF m 20 #[.val (.ref a_HasProperty), .val (.ref t), .val (.ref a_HasProperty)] [(.ref a_HasProperty)])) _
      refine XS.aloadN X0.here hx rfl (hb hby d3_20) rfl rfl ?_
      show Steps p.tables e below (s₁.setTop (mkF m 21 #[.val (.ref a_HasProperty), .val (.ref t), .val (.ref a_HasProperty)] [(.ref t), (.ref a_HasProperty)])) _
      refine Jvm.RoadKit.acmp (g := (mkF m 21 #[.val (.ref a_HasProperty), .val (.ref t), .val (.ref a_HasProperty)] [(.ref t), (.ref a_HasProperty)])) X0 hx rfl rfl rfl (pc0 := 21) (pc' := 24) (same := true) rfl (hb hby d3_21) rfl (decide_eq_true (congrArg Value.ref hc186)) (by decide) (by decide) ?_
      show Steps p.tables e below (s₁.setTop (mkF m 24 #[.val (.ref a_HasProperty), .val (.ref t), .val (.ref a_HasProperty)] [])) _
      refine XS.iconst X0.here hx rfl (hb hby d3_24) ?_
      show Steps p.tables e below (s₁.setTop (mkF m 25 #[.val (.ref a_HasProperty), .val (.ref t), .val (.ref a_HasProperty)] [(.int (1 : Int32))])) _
      refine XS.goto X0.here hx rfl (pc0 := 25) (pc' := 29) rfl (hb hby d3_25) (by decide) (by decide) ?_
      show Steps p.tables e below (s₁.setTop (mkF m 29 #[.val (.ref a_HasProperty), .val (.ref t), .val (.ref a_HasProperty)] [(.int (1 : Int32))])) _
      exact kq)
    obtain ⟨fs, hr, hrun, hended, hW, hsame⟩ := X0.leave (v := some (.int (nar .boolean (1 : Int32)))) (fun h => by rw [Bd.returns] at h; cases h)
    refine ⟨_, _, (by rw [← hA0]; exact G187 _ (retN X0 hx (t := .boolean) Bd.returns (by simp) (hb hby d3_29) hr)), hrun, hended, _, _, rfl, ?_, ⟨_, rfl⟩, hW, hsame.mono (by decide) (by decide)⟩
    exact ⟨(by rw [show own_b (a_HasProperty = t ∨ a_Aggregates = t ∨ a_HasChild = t ∨ a_HierarchicalReferences = t ∨ a_References = t) = (1 : Int32) from by simp [own_b, hc186]]; rfl), N0, e0⟩
  · have G188 : Go p e below A0 (s₁.setTop (mkF m 12 #[.val (.ref a_HasProperty), .val (.ref t), .val (.ref a_HasProperty)] [(.ref a_HasProperty)])) := fun tq kq => G185 tq (by
      refine Jvm.RoadKit.acmp (g := (mkF m 8 #[.val (.ref a_HasProperty), .val (.ref t), .val (.ref a_HasProperty)] [(.ref t), (.ref a_HasProperty)])) X0 hx rfl rfl rfl (pc0 := 8) (pc' := 11) (same := false) rfl (hb hby d3_8) rfl (decide_eq_false fun q => hc186 (Value.ref.inj q)) (by decide) (by decide) ?_
      show Steps p.tables e below (s₁.setTop (mkF m 11 #[.val (.ref a_HasProperty), .val (.ref t), .val (.ref a_HasProperty)] [])) _
      refine XS.aloadN X0.here hx rfl (hb hby d3_11) rfl rfl ?_
      show Steps p.tables e below (s₁.setTop (mkF m 12 #[.val (.ref a_HasProperty), .val (.ref t), .val (.ref a_HasProperty)] [(.ref a_HasProperty)])) _
      exact kq)
    obtain ⟨T189, X189, e189, st189⟩ := getF X0 hx hZ hown (host := "") (Or.inl (hw _ (List.mem_of_getElem? (i := 18) rfl))) Via.refl e0 F_a_HasProperty_supertype (g := (mkF m 12 #[.val (.ref a_HasProperty), .val (.ref t), .val (.ref a_HasProperty)] [(.ref a_HasProperty)])) rfl rfl (hb hby d3_12)
    have G190 : Go p e below A0 (T189.setTop (mkF m 15 #[.val (.ref a_HasProperty), .val (.ref t), .val (.ref a_HasProperty)] [(.ref a_Aggregates)])) := fun tq kq => G188 tq (st189 _ kq)
    have G191 : Go p e below A0 (T189.setTop (mkF m 8 #[.val (.ref a_HasProperty), .val (.ref t), .val (.ref a_Aggregates)] [(.ref t), (.ref a_Aggregates)])) := fun tq kq => G190 tq (by
      refine XS.astoreN X189.here hx rfl (hb hby d3_15) rfl rfl (l' := #[.val (.ref a_HasProperty), .val (.ref t), .val (.ref a_Aggregates)]) rfl ?_
      show Steps p.tables e below (T189.setTop (mkF m 16 #[.val (.ref a_HasProperty), .val (.ref t), .val (.ref a_Aggregates)] [])) _
      refine XS.goto X189.here hx rfl (pc0 := 16) (pc' := 2) rfl (hb hby d3_16) (by decide) (by decide) ?_
      show Steps p.tables e below (T189.setTop (mkF m 2 #[.val (.ref a_HasProperty), .val (.ref t), .val (.ref a_Aggregates)] [])) _
      refine XS.aloadN X189.here hx rfl (hb hby d3_2) rfl rfl ?_
      show Steps p.tables e below (T189.setTop (mkF m 3 #[.val (.ref a_HasProperty), .val (.ref t), .val (.ref a_Aggregates)] [(.ref a_Aggregates)])) _
      refine XS.ifnullNo X189.here hx rfl (hb hby d3_3) rfl ?_
      show Steps p.tables e below (T189.setTop (mkF m 6 #[.val (.ref a_HasProperty), .val (.ref t), .val (.ref a_Aggregates)] [])) _
      refine XS.aloadN X189.here hx rfl (hb hby d3_6) rfl rfl ?_
      show Steps p.tables e below (T189.setTop (mkF m 7 #[.val (.ref a_HasProperty), .val (.ref t), .val (.ref a_Aggregates)] [(.ref a_Aggregates)])) _
      refine XS.aloadN X189.here hx rfl (hb hby d3_7) rfl rfl ?_
      show Steps p.tables e below (T189.setTop (mkF m 8 #[.val (.ref a_HasProperty), .val (.ref t), .val (.ref a_Aggregates)] [(.ref t), (.ref a_Aggregates)])) _
      exact kq)
    by_cases hc192 : a_Aggregates = t
    · have G193 : Go p e below A0 (T189.setTop (mkF m 29 #[.val (.ref a_HasProperty), .val (.ref t), .val (.ref a_Aggregates)] [(.int (1 : Int32))])) := fun tq kq => G191 tq (by
        refine Jvm.RoadKit.acmp (g := (mkF m 8 #[.val (.ref a_HasProperty), .val (.ref t), .val (.ref a_Aggregates)] [(.ref t), (.ref a_Aggregates)])) X189 hx rfl rfl rfl (pc0 := 8) (pc' := 19) (same := true) rfl (hb hby d3_8) rfl (decide_eq_true (congrArg Value.ref hc192)) (by decide) (by decide) ?_
        show Steps p.tables e below (T189.setTop (mkF m 19 #[.val (.ref a_HasProperty), .val (.ref t), .val (.ref a_Aggregates)] [])) _
        refine XS.aloadN X189.here hx rfl (hb hby d3_19) rfl rfl ?_
        show Steps p.tables e below (T189.setTop (mkF m 20 #[.val (.ref a_HasProperty), .val (.ref t), .val (.ref a_Aggregates)] [(.ref a_Aggregates)])) _
        refine XS.aloadN X189.here hx rfl (hb hby d3_20) rfl rfl ?_
        show Steps p.tables e below (T189.setTop (mkF m 21 #[.val (.ref a_HasProperty), .val (.ref t), .val (.ref a_Aggregates)] [(.ref t), (.ref a_Aggregates)])) _
        refine Jvm.RoadKit.acmp (g := (mkF m 21 #[.val (.ref a_HasProperty), .val (.ref t), .val (.ref a_Aggregates)] [(.ref t), (.ref a_Aggregates)])) X189 hx rfl rfl rfl (pc0 := 21) (pc' := 24) (same := true) rfl (hb hby d3_21) rfl (decide_eq_true (congrArg Value.ref hc192)) (by decide) (by decide) ?_
        show Steps p.tables e below (T189.setTop (mkF m 24 #[.val (.ref a_HasProperty), .val (.ref t), .val (.ref a_Aggregates)] [])) _
        refine XS.iconst X189.here hx rfl (hb hby d3_24) ?_
        show Steps p.tables e below (T189.setTop (mkF m 25 #[.val (.ref a_HasProperty), .val (.ref t), .val (.ref a_Aggregates)] [(.int (1 : Int32))])) _
        refine XS.goto X189.here hx rfl (pc0 := 25) (pc' := 29) rfl (hb hby d3_25) (by decide) (by decide) ?_
        show Steps p.tables e below (T189.setTop (mkF m 29 #[.val (.ref a_HasProperty), .val (.ref t), .val (.ref a_Aggregates)] [(.int (1 : Int32))])) _
        exact kq)
      obtain ⟨fs, hr, hrun, hended, hW, hsame⟩ := X189.leave (v := some (.int (nar .boolean (1 : Int32)))) (fun h => by rw [Bd.returns] at h; cases h)
      refine ⟨_, _, (by rw [← hA0]; exact G193 _ (retN X189 hx (t := .boolean) Bd.returns (by simp) (hb hby d3_29) hr)), hrun, hended, _, _, rfl, ?_, ⟨_, rfl⟩, hW, hsame.mono (by decide) (by decide)⟩
      exact ⟨(by rw [show own_b (a_HasProperty = t ∨ a_Aggregates = t ∨ a_HasChild = t ∨ a_HierarchicalReferences = t ∨ a_References = t) = (1 : Int32) from by simp [own_b, hc186, hc192]]; rfl), N0, e189⟩
    · have G194 : Go p e below A0 (T189.setTop (mkF m 12 #[.val (.ref a_HasProperty), .val (.ref t), .val (.ref a_Aggregates)] [(.ref a_Aggregates)])) := fun tq kq => G191 tq (by
        refine Jvm.RoadKit.acmp (g := (mkF m 8 #[.val (.ref a_HasProperty), .val (.ref t), .val (.ref a_Aggregates)] [(.ref t), (.ref a_Aggregates)])) X189 hx rfl rfl rfl (pc0 := 8) (pc' := 11) (same := false) rfl (hb hby d3_8) rfl (decide_eq_false fun q => hc192 (Value.ref.inj q)) (by decide) (by decide) ?_
        show Steps p.tables e below (T189.setTop (mkF m 11 #[.val (.ref a_HasProperty), .val (.ref t), .val (.ref a_Aggregates)] [])) _
        refine XS.aloadN X189.here hx rfl (hb hby d3_11) rfl rfl ?_
        show Steps p.tables e below (T189.setTop (mkF m 12 #[.val (.ref a_HasProperty), .val (.ref t), .val (.ref a_Aggregates)] [(.ref a_Aggregates)])) _
        exact kq)
      obtain ⟨T195, X195, e195, st195⟩ := getF X189 hx hZ hown (host := "") (Or.inl (hw _ (List.mem_of_getElem? (i := 18) rfl))) Via.refl e189 F_a_Aggregates_supertype (g := (mkF m 12 #[.val (.ref a_HasProperty), .val (.ref t), .val (.ref a_Aggregates)] [(.ref a_Aggregates)])) rfl rfl (hb hby d3_12)
      have G196 : Go p e below A0 (T195.setTop (mkF m 15 #[.val (.ref a_HasProperty), .val (.ref t), .val (.ref a_Aggregates)] [(.ref a_HasChild)])) := fun tq kq => G194 tq (st195 _ kq)
      have G197 : Go p e below A0 (T195.setTop (mkF m 8 #[.val (.ref a_HasProperty), .val (.ref t), .val (.ref a_HasChild)] [(.ref t), (.ref a_HasChild)])) := fun tq kq => G196 tq (by
        refine XS.astoreN X195.here hx rfl (hb hby d3_15) rfl rfl (l' := #[.val (.ref a_HasProperty), .val (.ref t), .val (.ref a_HasChild)]) rfl ?_
        show Steps p.tables e below (T195.setTop (mkF m 16 #[.val (.ref a_HasProperty), .val (.ref t), .val (.ref a_HasChild)] [])) _
        refine XS.goto X195.here hx rfl (pc0 := 16) (pc' := 2) rfl (hb hby d3_16) (by decide) (by decide) ?_
        show Steps p.tables e below (T195.setTop (mkF m 2 #[.val (.ref a_HasProperty), .val (.ref t), .val (.ref a_HasChild)] [])) _
        refine XS.aloadN X195.here hx rfl (hb hby d3_2) rfl rfl ?_
        show Steps p.tables e below (T195.setTop (mkF m 3 #[.val (.ref a_HasProperty), .val (.ref t), .val (.ref a_HasChild)] [(.ref a_HasChild)])) _
        refine XS.ifnullNo X195.here hx rfl (hb hby d3_3) rfl ?_
        show Steps p.tables e below (T195.setTop (mkF m 6 #[.val (.ref a_HasProperty), .val (.ref t), .val (.ref a_HasChild)] [])) _
        refine XS.aloadN X195.here hx rfl (hb hby d3_6) rfl rfl ?_
        show Steps p.tables e below (T195.setTop (mkF m 7 #[.val (.ref a_HasProperty), .val (.ref t), .val (.ref a_HasChild)] [(.ref a_HasChild)])) _
        refine XS.aloadN X195.here hx rfl (hb hby d3_7) rfl rfl ?_
        show Steps p.tables e below (T195.setTop (mkF m 8 #[.val (.ref a_HasProperty), .val (.ref t), .val (.ref a_HasChild)] [(.ref t), (.ref a_HasChild)])) _
        exact kq)
      by_cases hc198 : a_HasChild = t
      · have G199 : Go p e below A0 (T195.setTop (mkF m 29 #[.val (.ref a_HasProperty), .val (.ref t), .val (.ref a_HasChild)] [(.int (1 : Int32))])) := fun tq kq => G197 tq (by
          refine Jvm.RoadKit.acmp (g := (mkF m 8 #[.val (.ref a_HasProperty), .val (.ref t), .val (.ref a_HasChild)] [(.ref t), (.ref a_HasChild)])) X195 hx rfl rfl rfl (pc0 := 8) (pc' := 19) (same := true) rfl (hb hby d3_8) rfl (decide_eq_true (congrArg Value.ref hc198)) (by decide) (by decide) ?_
          show Steps p.tables e below (T195.setTop (mkF m 19 #[.val (.ref a_HasProperty), .val (.ref t), .val (.ref a_HasChild)] [])) _
          refine XS.aloadN X195.here hx rfl (hb hby d3_19) rfl rfl ?_
          show Steps p.tables e below (T195.setTop (mkF m 20 #[.val (.ref a_HasProperty), .val (.ref t), .val (.ref a_HasChild)] [(.ref a_HasChild)])) _
          refine XS.aloadN X195.here hx rfl (hb hby d3_20) rfl rfl ?_
          show Steps p.tables e below (T195.setTop (mkF m 21 #[.val (.ref a_HasProperty), .val (.ref t), .val (.ref a_HasChild)] [(.ref t), (.ref a_HasChild)])) _
          refine Jvm.RoadKit.acmp (g := (mkF m 21 #[.val (.ref a_HasProperty), .val (.ref t), .val (.ref a_HasChild)] [(.ref t), (.ref a_HasChild)])) X195 hx rfl rfl rfl (pc0 := 21) (pc' := 24) (same := true) rfl (hb hby d3_21) rfl (decide_eq_true (congrArg Value.ref hc198)) (by decide) (by decide) ?_
          show Steps p.tables e below (T195.setTop (mkF m 24 #[.val (.ref a_HasProperty), .val (.ref t), .val (.ref a_HasChild)] [])) _
          refine XS.iconst X195.here hx rfl (hb hby d3_24) ?_
          show Steps p.tables e below (T195.setTop (mkF m 25 #[.val (.ref a_HasProperty), .val (.ref t), .val (.ref a_HasChild)] [(.int (1 : Int32))])) _
          refine XS.goto X195.here hx rfl (pc0 := 25) (pc' := 29) rfl (hb hby d3_25) (by decide) (by decide) ?_
          show Steps p.tables e below (T195.setTop (mkF m 29 #[.val (.ref a_HasProperty), .val (.ref t), .val (.ref a_HasChild)] [(.int (1 : Int32))])) _
          exact kq)
        obtain ⟨fs, hr, hrun, hended, hW, hsame⟩ := X195.leave (v := some (.int (nar .boolean (1 : Int32)))) (fun h => by rw [Bd.returns] at h; cases h)
        refine ⟨_, _, (by rw [← hA0]; exact G199 _ (retN X195 hx (t := .boolean) Bd.returns (by simp) (hb hby d3_29) hr)), hrun, hended, _, _, rfl, ?_, ⟨_, rfl⟩, hW, hsame.mono (by decide) (by decide)⟩
        exact ⟨(by rw [show own_b (a_HasProperty = t ∨ a_Aggregates = t ∨ a_HasChild = t ∨ a_HierarchicalReferences = t ∨ a_References = t) = (1 : Int32) from by simp [own_b, hc186, hc192, hc198]]; rfl), N0, e195⟩
      · have G200 : Go p e below A0 (T195.setTop (mkF m 12 #[.val (.ref a_HasProperty), .val (.ref t), .val (.ref a_HasChild)] [(.ref a_HasChild)])) := fun tq kq => G197 tq (by
          refine Jvm.RoadKit.acmp (g := (mkF m 8 #[.val (.ref a_HasProperty), .val (.ref t), .val (.ref a_HasChild)] [(.ref t), (.ref a_HasChild)])) X195 hx rfl rfl rfl (pc0 := 8) (pc' := 11) (same := false) rfl (hb hby d3_8) rfl (decide_eq_false fun q => hc198 (Value.ref.inj q)) (by decide) (by decide) ?_
          show Steps p.tables e below (T195.setTop (mkF m 11 #[.val (.ref a_HasProperty), .val (.ref t), .val (.ref a_HasChild)] [])) _
          refine XS.aloadN X195.here hx rfl (hb hby d3_11) rfl rfl ?_
          show Steps p.tables e below (T195.setTop (mkF m 12 #[.val (.ref a_HasProperty), .val (.ref t), .val (.ref a_HasChild)] [(.ref a_HasChild)])) _
          exact kq)
        obtain ⟨T201, X201, e201, st201⟩ := getF X195 hx hZ hown (host := "") (Or.inl (hw _ (List.mem_of_getElem? (i := 18) rfl))) Via.refl e195 F_a_HasChild_supertype (g := (mkF m 12 #[.val (.ref a_HasProperty), .val (.ref t), .val (.ref a_HasChild)] [(.ref a_HasChild)])) rfl rfl (hb hby d3_12)
        have G202 : Go p e below A0 (T201.setTop (mkF m 15 #[.val (.ref a_HasProperty), .val (.ref t), .val (.ref a_HasChild)] [(.ref a_HierarchicalReferences)])) := fun tq kq => G200 tq (st201 _ kq)
        have G203 : Go p e below A0 (T201.setTop (mkF m 8 #[.val (.ref a_HasProperty), .val (.ref t), .val (.ref a_HierarchicalReferences)] [(.ref t), (.ref a_HierarchicalReferences)])) := fun tq kq => G202 tq (by
          refine XS.astoreN X201.here hx rfl (hb hby d3_15) rfl rfl (l' := #[.val (.ref a_HasProperty), .val (.ref t), .val (.ref a_HierarchicalReferences)]) rfl ?_
          show Steps p.tables e below (T201.setTop (mkF m 16 #[.val (.ref a_HasProperty), .val (.ref t), .val (.ref a_HierarchicalReferences)] [])) _
          refine XS.goto X201.here hx rfl (pc0 := 16) (pc' := 2) rfl (hb hby d3_16) (by decide) (by decide) ?_
          show Steps p.tables e below (T201.setTop (mkF m 2 #[.val (.ref a_HasProperty), .val (.ref t), .val (.ref a_HierarchicalReferences)] [])) _
          refine XS.aloadN X201.here hx rfl (hb hby d3_2) rfl rfl ?_
          show Steps p.tables e below (T201.setTop (mkF m 3 #[.val (.ref a_HasProperty), .val (.ref t), .val (.ref a_HierarchicalReferences)] [(.ref a_HierarchicalReferences)])) _
          refine XS.ifnullNo X201.here hx rfl (hb hby d3_3) rfl ?_
          show Steps p.tables e below (T201.setTop (mkF m 6 #[.val (.ref a_HasProperty), .val (.ref t), .val (.ref a_HierarchicalReferences)] [])) _
          refine XS.aloadN X201.here hx rfl (hb hby d3_6) rfl rfl ?_
          show Steps p.tables e below (T201.setTop (mkF m 7 #[.val (.ref a_HasProperty), .val (.ref t), .val (.ref a_HierarchicalReferences)] [(.ref a_HierarchicalReferences)])) _
          refine XS.aloadN X201.here hx rfl (hb hby d3_7) rfl rfl ?_
          show Steps p.tables e below (T201.setTop (mkF m 8 #[.val (.ref a_HasProperty), .val (.ref t), .val (.ref a_HierarchicalReferences)] [(.ref t), (.ref a_HierarchicalReferences)])) _
          exact kq)
        by_cases hc204 : a_HierarchicalReferences = t
        · have G205 : Go p e below A0 (T201.setTop (mkF m 29 #[.val (.ref a_HasProperty), .val (.ref t), .val (.ref a_HierarchicalReferences)] [(.int (1 : Int32))])) := fun tq kq => G203 tq (by
            refine Jvm.RoadKit.acmp (g := (mkF m 8 #[.val (.ref a_HasProperty), .val (.ref t), .val (.ref a_HierarchicalReferences)] [(.ref t), (.ref a_HierarchicalReferences)])) X201 hx rfl rfl rfl (pc0 := 8) (pc' := 19) (same := true) rfl (hb hby d3_8) rfl (decide_eq_true (congrArg Value.ref hc204)) (by decide) (by decide) ?_
            show Steps p.tables e below (T201.setTop (mkF m 19 #[.val (.ref a_HasProperty), .val (.ref t), .val (.ref a_HierarchicalReferences)] [])) _
            refine XS.aloadN X201.here hx rfl (hb hby d3_19) rfl rfl ?_
            show Steps p.tables e below (T201.setTop (mkF m 20 #[.val (.ref a_HasProperty), .val (.ref t), .val (.ref a_HierarchicalReferences)] [(.ref a_HierarchicalReferences)])) _
            refine XS.aloadN X201.here hx rfl (hb hby d3_20) rfl rfl ?_
            show Steps p.tables e below (T201.setTop (mkF m 21 #[.val (.ref a_HasProperty), .val (.ref t), .val (.ref a_HierarchicalReferences)] [(.ref t), (.ref a_HierarchicalReferences)])) _
            refine Jvm.RoadKit.acmp (g := (mkF m 21 #[.val (.ref a_HasProperty), .val (.ref t), .val (.ref a_HierarchicalReferences)] [(.ref t), (.ref a_HierarchicalReferences)])) X201 hx rfl rfl rfl (pc0 := 21) (pc' := 24) (same := true) rfl (hb hby d3_21) rfl (decide_eq_true (congrArg Value.ref hc204)) (by decide) (by decide) ?_
            show Steps p.tables e below (T201.setTop (mkF m 24 #[.val (.ref a_HasProperty), .val (.ref t), .val (.ref a_HierarchicalReferences)] [])) _
            refine XS.iconst X201.here hx rfl (hb hby d3_24) ?_
            show Steps p.tables e below (T201.setTop (mkF m 25 #[.val (.ref a_HasProperty), .val (.ref t), .val (.ref a_HierarchicalReferences)] [(.int (1 : Int32))])) _
            refine XS.goto X201.here hx rfl (pc0 := 25) (pc' := 29) rfl (hb hby d3_25) (by decide) (by decide) ?_
            show Steps p.tables e below (T201.setTop (mkF m 29 #[.val (.ref a_HasProperty), .val (.ref t), .val (.ref a_HierarchicalReferences)] [(.int (1 : Int32))])) _
            exact kq)
          obtain ⟨fs, hr, hrun, hended, hW, hsame⟩ := X201.leave (v := some (.int (nar .boolean (1 : Int32)))) (fun h => by rw [Bd.returns] at h; cases h)
          refine ⟨_, _, (by rw [← hA0]; exact G205 _ (retN X201 hx (t := .boolean) Bd.returns (by simp) (hb hby d3_29) hr)), hrun, hended, _, _, rfl, ?_, ⟨_, rfl⟩, hW, hsame.mono (by decide) (by decide)⟩
          exact ⟨(by rw [show own_b (a_HasProperty = t ∨ a_Aggregates = t ∨ a_HasChild = t ∨ a_HierarchicalReferences = t ∨ a_References = t) = (1 : Int32) from by simp [own_b, hc186, hc192, hc198, hc204]]; rfl), N0, e201⟩
        · have G206 : Go p e below A0 (T201.setTop (mkF m 12 #[.val (.ref a_HasProperty), .val (.ref t), .val (.ref a_HierarchicalReferences)] [(.ref a_HierarchicalReferences)])) := fun tq kq => G203 tq (by
            refine Jvm.RoadKit.acmp (g := (mkF m 8 #[.val (.ref a_HasProperty), .val (.ref t), .val (.ref a_HierarchicalReferences)] [(.ref t), (.ref a_HierarchicalReferences)])) X201 hx rfl rfl rfl (pc0 := 8) (pc' := 11) (same := false) rfl (hb hby d3_8) rfl (decide_eq_false fun q => hc204 (Value.ref.inj q)) (by decide) (by decide) ?_
            show Steps p.tables e below (T201.setTop (mkF m 11 #[.val (.ref a_HasProperty), .val (.ref t), .val (.ref a_HierarchicalReferences)] [])) _
            refine XS.aloadN X201.here hx rfl (hb hby d3_11) rfl rfl ?_
            show Steps p.tables e below (T201.setTop (mkF m 12 #[.val (.ref a_HasProperty), .val (.ref t), .val (.ref a_HierarchicalReferences)] [(.ref a_HierarchicalReferences)])) _
            exact kq)
          obtain ⟨T207, X207, e207, st207⟩ := getF X201 hx hZ hown (host := "") (Or.inl (hw _ (List.mem_of_getElem? (i := 18) rfl))) Via.refl e201 F_a_HierarchicalReferences_supertype (g := (mkF m 12 #[.val (.ref a_HasProperty), .val (.ref t), .val (.ref a_HierarchicalReferences)] [(.ref a_HierarchicalReferences)])) rfl rfl (hb hby d3_12)
          have G208 : Go p e below A0 (T207.setTop (mkF m 15 #[.val (.ref a_HasProperty), .val (.ref t), .val (.ref a_HierarchicalReferences)] [(.ref a_References)])) := fun tq kq => G206 tq (st207 _ kq)
          have G209 : Go p e below A0 (T207.setTop (mkF m 8 #[.val (.ref a_HasProperty), .val (.ref t), .val (.ref a_References)] [(.ref t), (.ref a_References)])) := fun tq kq => G208 tq (by
            refine XS.astoreN X207.here hx rfl (hb hby d3_15) rfl rfl (l' := #[.val (.ref a_HasProperty), .val (.ref t), .val (.ref a_References)]) rfl ?_
            show Steps p.tables e below (T207.setTop (mkF m 16 #[.val (.ref a_HasProperty), .val (.ref t), .val (.ref a_References)] [])) _
            refine XS.goto X207.here hx rfl (pc0 := 16) (pc' := 2) rfl (hb hby d3_16) (by decide) (by decide) ?_
            show Steps p.tables e below (T207.setTop (mkF m 2 #[.val (.ref a_HasProperty), .val (.ref t), .val (.ref a_References)] [])) _
            refine XS.aloadN X207.here hx rfl (hb hby d3_2) rfl rfl ?_
            show Steps p.tables e below (T207.setTop (mkF m 3 #[.val (.ref a_HasProperty), .val (.ref t), .val (.ref a_References)] [(.ref a_References)])) _
            refine XS.ifnullNo X207.here hx rfl (hb hby d3_3) rfl ?_
            show Steps p.tables e below (T207.setTop (mkF m 6 #[.val (.ref a_HasProperty), .val (.ref t), .val (.ref a_References)] [])) _
            refine XS.aloadN X207.here hx rfl (hb hby d3_6) rfl rfl ?_
            show Steps p.tables e below (T207.setTop (mkF m 7 #[.val (.ref a_HasProperty), .val (.ref t), .val (.ref a_References)] [(.ref a_References)])) _
            refine XS.aloadN X207.here hx rfl (hb hby d3_7) rfl rfl ?_
            show Steps p.tables e below (T207.setTop (mkF m 8 #[.val (.ref a_HasProperty), .val (.ref t), .val (.ref a_References)] [(.ref t), (.ref a_References)])) _
            exact kq)
          by_cases hc210 : a_References = t
          · have G211 : Go p e below A0 (T207.setTop (mkF m 29 #[.val (.ref a_HasProperty), .val (.ref t), .val (.ref a_References)] [(.int (1 : Int32))])) := fun tq kq => G209 tq (by
              refine Jvm.RoadKit.acmp (g := (mkF m 8 #[.val (.ref a_HasProperty), .val (.ref t), .val (.ref a_References)] [(.ref t), (.ref a_References)])) X207 hx rfl rfl rfl (pc0 := 8) (pc' := 19) (same := true) rfl (hb hby d3_8) rfl (decide_eq_true (congrArg Value.ref hc210)) (by decide) (by decide) ?_
              show Steps p.tables e below (T207.setTop (mkF m 19 #[.val (.ref a_HasProperty), .val (.ref t), .val (.ref a_References)] [])) _
              refine XS.aloadN X207.here hx rfl (hb hby d3_19) rfl rfl ?_
              show Steps p.tables e below (T207.setTop (mkF m 20 #[.val (.ref a_HasProperty), .val (.ref t), .val (.ref a_References)] [(.ref a_References)])) _
              refine XS.aloadN X207.here hx rfl (hb hby d3_20) rfl rfl ?_
              show Steps p.tables e below (T207.setTop (mkF m 21 #[.val (.ref a_HasProperty), .val (.ref t), .val (.ref a_References)] [(.ref t), (.ref a_References)])) _
              refine Jvm.RoadKit.acmp (g := (mkF m 21 #[.val (.ref a_HasProperty), .val (.ref t), .val (.ref a_References)] [(.ref t), (.ref a_References)])) X207 hx rfl rfl rfl (pc0 := 21) (pc' := 24) (same := true) rfl (hb hby d3_21) rfl (decide_eq_true (congrArg Value.ref hc210)) (by decide) (by decide) ?_
              show Steps p.tables e below (T207.setTop (mkF m 24 #[.val (.ref a_HasProperty), .val (.ref t), .val (.ref a_References)] [])) _
              refine XS.iconst X207.here hx rfl (hb hby d3_24) ?_
              show Steps p.tables e below (T207.setTop (mkF m 25 #[.val (.ref a_HasProperty), .val (.ref t), .val (.ref a_References)] [(.int (1 : Int32))])) _
              refine XS.goto X207.here hx rfl (pc0 := 25) (pc' := 29) rfl (hb hby d3_25) (by decide) (by decide) ?_
              show Steps p.tables e below (T207.setTop (mkF m 29 #[.val (.ref a_HasProperty), .val (.ref t), .val (.ref a_References)] [(.int (1 : Int32))])) _
              exact kq)
            obtain ⟨fs, hr, hrun, hended, hW, hsame⟩ := X207.leave (v := some (.int (nar .boolean (1 : Int32)))) (fun h => by rw [Bd.returns] at h; cases h)
            refine ⟨_, _, (by rw [← hA0]; exact G211 _ (retN X207 hx (t := .boolean) Bd.returns (by simp) (hb hby d3_29) hr)), hrun, hended, _, _, rfl, ?_, ⟨_, rfl⟩, hW, hsame.mono (by decide) (by decide)⟩
            exact ⟨(by rw [show own_b (a_HasProperty = t ∨ a_Aggregates = t ∨ a_HasChild = t ∨ a_HierarchicalReferences = t ∨ a_References = t) = (1 : Int32) from by simp [own_b, hc186, hc192, hc198, hc204, hc210]]; rfl), N0, e207⟩
          · have G212 : Go p e below A0 (T207.setTop (mkF m 12 #[.val (.ref a_HasProperty), .val (.ref t), .val (.ref a_References)] [(.ref a_References)])) := fun tq kq => G209 tq (by
              refine Jvm.RoadKit.acmp (g := (mkF m 8 #[.val (.ref a_HasProperty), .val (.ref t), .val (.ref a_References)] [(.ref t), (.ref a_References)])) X207 hx rfl rfl rfl (pc0 := 8) (pc' := 11) (same := false) rfl (hb hby d3_8) rfl (decide_eq_false fun q => hc210 (Value.ref.inj q)) (by decide) (by decide) ?_
              show Steps p.tables e below (T207.setTop (mkF m 11 #[.val (.ref a_HasProperty), .val (.ref t), .val (.ref a_References)] [])) _
              refine XS.aloadN X207.here hx rfl (hb hby d3_11) rfl rfl ?_
              show Steps p.tables e below (T207.setTop (mkF m 12 #[.val (.ref a_HasProperty), .val (.ref t), .val (.ref a_References)] [(.ref a_References)])) _
              exact kq)
            obtain ⟨T213, X213, e213, st213⟩ := getF X207 hx hZ hown (host := "") (Or.inl (hw _ (List.mem_of_getElem? (i := 18) rfl))) Via.refl e207 F_a_References_supertype (g := (mkF m 12 #[.val (.ref a_HasProperty), .val (.ref t), .val (.ref a_References)] [(.ref a_References)])) rfl rfl (hb hby d3_12)
            have G214 : Go p e below A0 (T213.setTop (mkF m 15 #[.val (.ref a_HasProperty), .val (.ref t), .val (.ref a_References)] [.null])) := fun tq kq => G212 tq (st213 _ kq)
            have G215 : Go p e below A0 (T213.setTop (mkF m 29 #[.val (.ref a_HasProperty), .val (.ref t), .val .null] [(.int (0 : Int32))])) := fun tq kq => G214 tq (by
              refine XS.astoreN X213.here hx rfl (hb hby d3_15) rfl rfl (l' := #[.val (.ref a_HasProperty), .val (.ref t), .val .null]) rfl ?_
              show Steps p.tables e below (T213.setTop (mkF m 16 #[.val (.ref a_HasProperty), .val (.ref t), .val .null] [])) _
              refine XS.goto X213.here hx rfl (pc0 := 16) (pc' := 2) rfl (hb hby d3_16) (by decide) (by decide) ?_
              show Steps p.tables e below (T213.setTop (mkF m 2 #[.val (.ref a_HasProperty), .val (.ref t), .val .null] [])) _
              refine XS.aloadN X213.here hx rfl (hb hby d3_2) rfl rfl ?_
              show Steps p.tables e below (T213.setTop (mkF m 3 #[.val (.ref a_HasProperty), .val (.ref t), .val .null] [.null])) _
              refine XS.ifnullYes X213.here hx rfl (pc0 := 3) (pc' := 19) rfl (hb hby d3_3) rfl (by decide) (by decide) ?_
              show Steps p.tables e below (T213.setTop (mkF m 19 #[.val (.ref a_HasProperty), .val (.ref t), .val .null] [])) _
              refine XS.aloadN X213.here hx rfl (hb hby d3_19) rfl rfl ?_
              show Steps p.tables e below (T213.setTop (mkF m 20 #[.val (.ref a_HasProperty), .val (.ref t), .val .null] [.null])) _
              refine XS.aloadN X213.here hx rfl (hb hby d3_20) rfl rfl ?_
              show Steps p.tables e below (T213.setTop (mkF m 21 #[.val (.ref a_HasProperty), .val (.ref t), .val .null] [(.ref t), .null])) _
              refine Jvm.RoadKit.acmp (g := (mkF m 21 #[.val (.ref a_HasProperty), .val (.ref t), .val .null] [(.ref t), .null])) X213 hx rfl rfl rfl (pc0 := 21) (pc' := 28) (same := false) rfl (hb hby d3_21) rfl (decide_eq_false nofun) (by decide) (by decide) ?_
              show Steps p.tables e below (T213.setTop (mkF m 28 #[.val (.ref a_HasProperty), .val (.ref t), .val .null] [])) _
              refine XS.iconst X213.here hx rfl (hb hby d3_28) ?_
              show Steps p.tables e below (T213.setTop (mkF m 29 #[.val (.ref a_HasProperty), .val (.ref t), .val .null] [(.int (0 : Int32))])) _
              exact kq)
            obtain ⟨fs, hr, hrun, hended, hW, hsame⟩ := X213.leave (v := some (.int (nar .boolean (0 : Int32)))) (fun h => by rw [Bd.returns] at h; cases h)
            refine ⟨_, _, (by rw [← hA0]; exact G215 _ (retN X213 hx (t := .boolean) Bd.returns (by simp) (hb hby d3_29) hr)), hrun, hended, _, _, rfl, ?_, ⟨_, rfl⟩, hW, hsame.mono (by decide) (by decide)⟩
            exact ⟨(by rw [show own_b (a_HasProperty = t ∨ a_Aggregates = t ∨ a_HasChild = t ∨ a_HierarchicalReferences = t ∨ a_References = t) = (0 : Int32) from by simp [own_b, hc186, hc192, hc198, hc204, hc210]]; rfl), N0, e213⟩
set_option maxRecDepth 65536 in
set_option maxHeartbeats 40000000 in
theorem rm3_7 (l : Launch) (Z : State) (a0 : Array Value) (hw : ∀ d ∈ tables_1, d.before a0 Z = true) (ws : List Jvm.Cond) (a_HasComponent a_Aggregates a_HasChild a_HierarchicalReferences a_References t : Addr) (h0 : Heap) (n0 : Nat) (Z0 : n0 ≤ h0.size) (F_a_HasComponent_supertype : Fld Z h0 a_HasComponent "com/example/halyard/halyard/server/ReferenceType" "supertype" "Lcom/example/halyard/halyard/server/ReferenceType;" (.ref a_Aggregates)) (F_a_Aggregates_supertype : Fld Z h0 a_Aggregates "com/example/halyard/halyard/server/ReferenceType" "supertype" "Lcom/example/halyard/halyard/server/ReferenceType;" (.ref a_HasChild)) (F_a_HasChild_supertype : Fld Z h0 a_HasChild "com/example/halyard/halyard/server/ReferenceType" "supertype" "Lcom/example/halyard/halyard/server/ReferenceType;" (.ref a_HierarchicalReferences)) (F_a_HierarchicalReferences_supertype : Fld Z h0 a_HierarchicalReferences "com/example/halyard/halyard/server/ReferenceType" "supertype" "Lcom/example/halyard/halyard/server/ReferenceType;" (.ref a_References)) (F_a_References_supertype : Fld Z h0 a_References "com/example/halyard/halyard/server/ReferenceType" "supertype" "Lcom/example/halyard/halyard/server/ReferenceType;" .null) :
    MetFree l (⟨"com/example/halyard/halyard/server/ReferenceType", "isSubtypeOf", "(Lcom/example/halyard/halyard/server/ReferenceType;)Z"⟩ : MethodName) (head1 (Jvm.Cond.code (⟨"com/example/halyard/halyard/server/ReferenceType", "isSubtypeOf", "(Lcom/example/halyard/halyard/server/ReferenceType;)Z"⟩ : MethodName) prog_116_method_8_code 3 (some .boolean) :: ws) ({ frames := 0, cells := 0, slots := 0, locals := 0 } : Room)) (fun aa UU => aa = #[(.ref a_HasComponent), (.ref t)] ∧ Z.Warmed39 UU.vm ∧ UU.heap = h0) (fun _ _ _ _ _ => True) (fun _ UU oo U' => ∃ v L, oo = .returned v ∧ Qr (.int (own_b (a_HasComponent = t ∨ a_Aggregates = t ∨ a_HasChild = t ∨ a_HierarchicalReferences = t ∨ a_References = t))) h0 n0 v U'.heap L ∧ FrameEnd UU oo U' L ({ frames := 0, cells := 0, slots := 0, locals := 0 } : Room).cells ({ frames := 0, cells := 0, slots := 0, locals := 0 } : Room).slots) := by
  refine MetFree.of_bodySF (plainFor_of_name pn_1) hisR ?_
  intro p e s m args below meth c s₁ Bd hml0 hP hK
  obtain ⟨rfl, hZ, hh⟩ := hP
  have hx := Bd.exec
  have hby := Bd.bytes
  have hml : c.maxLocals = 3 := hml0
  have hown : s.vm.findClass "com/example/halyard/halyard/server/ReferenceType" = some m.cls := findClass_of_methodNamed Bd.named
  have hnm := (name_of_methodNamed Bd.named Bd.method).1
  have X0 : Stand p l e ({ frames := 0, cells := 0, slots := 0, locals := 0 } : Room) s m #[(.ref a_HasComponent), (.ref t)] below meth c s₁ [] 0 0 := Stand.of_body Bd
  have e0 : s₁.heap = h0 := by rw [← hh, Bd.state]; rfl
  have N0 := Fr.nil n0
  obtain ⟨A0, hA0⟩ : ∃ A, A = s₁.setTop (entryFrame m #[(.ref a_HasComponent), (.ref t)] 3) := ⟨_, rfl⟩
  have G0 : Go p e below A0 (s₁.setTop (mkF m 0 #[.val (.ref a_HasComponent), .val (.ref t), .unset] [])) := fun tq kq => by rw [hA0]; exact castTop (ef_rm3_7 m a_HasComponent t) kq
  have G216 : Go p e below A0 (s₁.setTop (mkF m 8 #[.val (.ref a_HasComponent), .val (.ref t), .val (.ref a_HasComponent)] [(.ref t), (.ref a_HasComponent)])) := fun tq kq => G0 tq (by
    refine XS.aloadN X0.here hx rfl (hb hby d3_0) rfl rfl ?_
    show Steps p.tables e below (s₁.setTop (mkF m 1 #[.val (.ref a_HasComponent), .val (.ref t), .unset] [(.ref a_HasComponent)])) _
    refine XS.astoreN X0.here hx rfl (hb hby d3_1) rfl rfl (l' := #[.val (.ref a_HasComponent), .val (.ref t), .val (.ref a_HasComponent)]) rfl ?_
    show Steps p.tables e below (s₁.setTop (mkF m 2 #[.val (.ref a_HasComponent), .val (.ref t), .val (.ref a_HasComponent)] [])) _
    refine XS.aloadN X0.here hx rfl (hb hby d3_2) rfl rfl ?_
    show Steps p.tables e below (s₁.setTop (mkF m 3 #[.val (.ref a_HasComponent), .val (.ref t), .val (.ref a_HasComponent)] [(.ref a_HasComponent)])) _
    refine XS.ifnullNo X0.here hx rfl (hb hby d3_3) rfl ?_
    show Steps p.tables e below (s₁.setTop (mkF m 6 #[.val (.ref a_HasComponent), .val (.ref t), .val (.ref a_HasComponent)] [])) _
    refine XS.aloadN X0.here hx rfl (hb hby d3_6) rfl rfl ?_
    show Steps p.tables e below (s₁.setTop (mkF m 7 #[.val (.ref a_HasComponent), .val (.ref t), .val (.ref a_HasComponent)] [(.ref a_HasComponent)])) _
    refine XS.aloadN X0.here hx rfl (hb hby d3_7) rfl rfl ?_
    show Steps p.tables e below (s₁.setTop (mkF m 8 #[.val (.ref a_HasComponent), .val (.ref t), .val (.ref a_HasComponent)] [(.ref t), (.ref a_HasComponent)])) _
    exact kq)
  by_cases hc217 : a_HasComponent = t
  · have G218 : Go p e below A0 (s₁.setTop (mkF m 29 #[.val (.ref a_HasComponent), .val (.ref t), .val (.ref a_HasComponent)] [(.int (1 : Int32))])) := fun tq kq => G216 tq (by
      refine Jvm.RoadKit.acmp (g := (mkF m 8 #[.val (.ref a_HasComponent), .val (.ref t), .val (.ref a_HasComponent)] [(.ref t), (.ref a_HasComponent)])) X0 hx rfl rfl rfl (pc0 := 8) (pc' := 19) (same := true) rfl (hb hby d3_8) rfl (decide_eq_true (congrArg Value.ref hc217)) (by decide) (by decide) ?_
      show Steps p.tables e below (s₁.setTop (mkF m 19 #[.val (.ref a_HasComponent), .val (.ref t), .val (.ref a_HasComponent)] [])) _
      refine XS.aloadN X0.here hx rfl (hb hby d3_19) rfl rfl ?_
      show Steps p.tables e below (s₁.setTop (mkF m 20 #[.val (.ref a_HasComponent), .val (.ref t), .val (.ref a_HasComponent)] [(.ref a_HasComponent)])) _
      refine XS.aloadN X0.here hx rfl (hb hby d3_20) rfl rfl ?_
      show Steps p.tables e below (s₁.setTop (mkF m 21 #[.val (.ref a_HasComponent), .val (.ref t), .val (.ref a_HasComponent)] [(.ref t), (.ref a_HasComponent)])) _
      refine Jvm.RoadKit.acmp (g := (mkF m 21 #[.val (.ref a_HasComponent), .val (.ref t), .val (.ref a_HasComponent)] [(.ref t), (.ref a_HasComponent)])) X0 hx rfl rfl rfl (pc0 := 21) (pc' := 24) (same := true) rfl (hb hby d3_21) rfl (decide_eq_true (congrArg Value.ref hc217)) (by decide) (by decide) ?_
      show Steps p.tables e below (s₁.setTop (mkF m 24 #[.val (.ref a_HasComponent), .val (.ref t), .val (.ref a_HasComponent)] [])) _
      refine XS.iconst X0.here hx rfl (hb hby d3_24) ?_
      show Steps p.tables e below (s₁.setTop (mkF m 25 #[.val (.ref a_HasComponent), .val (.ref t), .val (.ref a_HasComponent)] [(.int (1 : Int32))])) _
      refine XS.goto X0.here hx rfl (pc0 := 25) (pc' := 29) rfl (hb hby d3_25) (by decide) (by decide) ?_
      show Steps p.tables e below (s₁.setTop (mkF m 29 #[.val (.ref a_HasComponent), .val (.ref t), .val (.ref a_HasComponent)] [(.int (1 : Int32))])) _
      exact kq)
    obtain ⟨fs, hr, hrun, hended, hW, hsame⟩ := X0.leave (v := some (.int (nar .boolean (1 : Int32)))) (fun h => by rw [Bd.returns] at h; cases h)
    refine ⟨_, _, (by rw [← hA0]; exact G218 _ (retN X0 hx (t := .boolean) Bd.returns (by simp) (hb hby d3_29) hr)), hrun, hended, _, _, rfl, ?_, ⟨_, rfl⟩, hW, hsame.mono (by decide) (by decide)⟩
    exact ⟨(by rw [show own_b (a_HasComponent = t ∨ a_Aggregates = t ∨ a_HasChild = t ∨ a_HierarchicalReferences = t ∨ a_References = t) = (1 : Int32) from by simp [own_b, hc217]]; rfl), N0, e0⟩
  · have G219 : Go p e below A0 (s₁.setTop (mkF m 12 #[.val (.ref a_HasComponent), .val (.ref t), .val (.ref a_HasComponent)] [(.ref a_HasComponent)])) := fun tq kq => G216 tq (by
      refine Jvm.RoadKit.acmp (g := (mkF m 8 #[.val (.ref a_HasComponent), .val (.ref t), .val (.ref a_HasComponent)] [(.ref t), (.ref a_HasComponent)])) X0 hx rfl rfl rfl (pc0 := 8) (pc' := 11) (same := false) rfl (hb hby d3_8) rfl (decide_eq_false fun q => hc217 (Value.ref.inj q)) (by decide) (by decide) ?_
      show Steps p.tables e below (s₁.setTop (mkF m 11 #[.val (.ref a_HasComponent), .val (.ref t), .val (.ref a_HasComponent)] [])) _
      refine XS.aloadN X0.here hx rfl (hb hby d3_11) rfl rfl ?_
      show Steps p.tables e below (s₁.setTop (mkF m 12 #[.val (.ref a_HasComponent), .val (.ref t), .val (.ref a_HasComponent)] [(.ref a_HasComponent)])) _
      exact kq)
    obtain ⟨T220, X220, e220, st220⟩ := getF X0 hx hZ hown (host := "") (Or.inl (hw _ (List.mem_of_getElem? (i := 18) rfl))) Via.refl e0 F_a_HasComponent_supertype (g := (mkF m 12 #[.val (.ref a_HasComponent), .val (.ref t), .val (.ref a_HasComponent)] [(.ref a_HasComponent)])) rfl rfl (hb hby d3_12)
    have G221 : Go p e below A0 (T220.setTop (mkF m 15 #[.val (.ref a_HasComponent), .val (.ref t), .val (.ref a_HasComponent)] [(.ref a_Aggregates)])) := fun tq kq => G219 tq (st220 _ kq)
    have G222 : Go p e below A0 (T220.setTop (mkF m 8 #[.val (.ref a_HasComponent), .val (.ref t), .val (.ref a_Aggregates)] [(.ref t), (.ref a_Aggregates)])) := fun tq kq => G221 tq (by
      refine XS.astoreN X220.here hx rfl (hb hby d3_15) rfl rfl (l' := #[.val (.ref a_HasComponent), .val (.ref t), .val (.ref a_Aggregates)]) rfl ?_
      show Steps p.tables e below (T220.setTop (mkF m 16 #[.val (.ref a_HasComponent), .val (.ref t), .val (.ref a_Aggregates)] [])) _
      refine XS.goto X220.here hx rfl (pc0 := 16) (pc' := 2) rfl (hb hby d3_16) (by decide) (by decide) ?_
      show Steps p.tables e below (T220.setTop (mkF m 2 #[.val (.ref a_HasComponent), .val (.ref t), .val (.ref a_Aggregates)] [])) _
      refine XS.aloadN X220.here hx rfl (hb hby d3_2) rfl rfl ?_
      show Steps p.tables e below (T220.setTop (mkF m 3 #[.val (.ref a_HasComponent), .val (.ref t), .val (.ref a_Aggregates)] [(.ref a_Aggregates)])) _
      refine XS.ifnullNo X220.here hx rfl (hb hby d3_3) rfl ?_
      show Steps p.tables e below (T220.setTop (mkF m 6 #[.val (.ref a_HasComponent), .val (.ref t), .val (.ref a_Aggregates)] [])) _
      refine XS.aloadN X220.here hx rfl (hb hby d3_6) rfl rfl ?_
      show Steps p.tables e below (T220.setTop (mkF m 7 #[.val (.ref a_HasComponent), .val (.ref t), .val (.ref a_Aggregates)] [(.ref a_Aggregates)])) _
      refine XS.aloadN X220.here hx rfl (hb hby d3_7) rfl rfl ?_
      show Steps p.tables e below (T220.setTop (mkF m 8 #[.val (.ref a_HasComponent), .val (.ref t), .val (.ref a_Aggregates)] [(.ref t), (.ref a_Aggregates)])) _
      exact kq)
    by_cases hc223 : a_Aggregates = t
    · have G224 : Go p e below A0 (T220.setTop (mkF m 29 #[.val (.ref a_HasComponent), .val (.ref t), .val (.ref a_Aggregates)] [(.int (1 : Int32))])) := fun tq kq => G222 tq (by
        refine Jvm.RoadKit.acmp (g := (mkF m 8 #[.val (.ref a_HasComponent), .val (.ref t), .val (.ref a_Aggregates)] [(.ref t), (.ref a_Aggregates)])) X220 hx rfl rfl rfl (pc0 := 8) (pc' := 19) (same := true) rfl (hb hby d3_8) rfl (decide_eq_true (congrArg Value.ref hc223)) (by decide) (by decide) ?_
        show Steps p.tables e below (T220.setTop (mkF m 19 #[.val (.ref a_HasComponent), .val (.ref t), .val (.ref a_Aggregates)] [])) _
        refine XS.aloadN X220.here hx rfl (hb hby d3_19) rfl rfl ?_
        show Steps p.tables e below (T220.setTop (mkF m 20 #[.val (.ref a_HasComponent), .val (.ref t), .val (.ref a_Aggregates)] [(.ref a_Aggregates)])) _
        refine XS.aloadN X220.here hx rfl (hb hby d3_20) rfl rfl ?_
        show Steps p.tables e below (T220.setTop (mkF m 21 #[.val (.ref a_HasComponent), .val (.ref t), .val (.ref a_Aggregates)] [(.ref t), (.ref a_Aggregates)])) _
        refine Jvm.RoadKit.acmp (g := (mkF m 21 #[.val (.ref a_HasComponent), .val (.ref t), .val (.ref a_Aggregates)] [(.ref t), (.ref a_Aggregates)])) X220 hx rfl rfl rfl (pc0 := 21) (pc' := 24) (same := true) rfl (hb hby d3_21) rfl (decide_eq_true (congrArg Value.ref hc223)) (by decide) (by decide) ?_
        show Steps p.tables e below (T220.setTop (mkF m 24 #[.val (.ref a_HasComponent), .val (.ref t), .val (.ref a_Aggregates)] [])) _
        refine XS.iconst X220.here hx rfl (hb hby d3_24) ?_
        show Steps p.tables e below (T220.setTop (mkF m 25 #[.val (.ref a_HasComponent), .val (.ref t), .val (.ref a_Aggregates)] [(.int (1 : Int32))])) _
        refine XS.goto X220.here hx rfl (pc0 := 25) (pc' := 29) rfl (hb hby d3_25) (by decide) (by decide) ?_
        show Steps p.tables e below (T220.setTop (mkF m 29 #[.val (.ref a_HasComponent), .val (.ref t), .val (.ref a_Aggregates)] [(.int (1 : Int32))])) _
        exact kq)
      obtain ⟨fs, hr, hrun, hended, hW, hsame⟩ := X220.leave (v := some (.int (nar .boolean (1 : Int32)))) (fun h => by rw [Bd.returns] at h; cases h)
      refine ⟨_, _, (by rw [← hA0]; exact G224 _ (retN X220 hx (t := .boolean) Bd.returns (by simp) (hb hby d3_29) hr)), hrun, hended, _, _, rfl, ?_, ⟨_, rfl⟩, hW, hsame.mono (by decide) (by decide)⟩
      exact ⟨(by rw [show own_b (a_HasComponent = t ∨ a_Aggregates = t ∨ a_HasChild = t ∨ a_HierarchicalReferences = t ∨ a_References = t) = (1 : Int32) from by simp [own_b, hc217, hc223]]; rfl), N0, e220⟩
    · have G225 : Go p e below A0 (T220.setTop (mkF m 12 #[.val (.ref a_HasComponent), .val (.ref t), .val (.ref a_Aggregates)] [(.ref a_Aggregates)])) := fun tq kq => G222 tq (by
        refine Jvm.RoadKit.acmp (g := (mkF m 8 #[.val (.ref a_HasComponent), .val (.ref t), .val (.ref a_Aggregates)] [(.ref t), (.ref a_Aggregates)])) X220 hx rfl rfl rfl (pc0 := 8) (pc' := 11) (same := false) rfl (hb hby d3_8) rfl (decide_eq_false fun q => hc223 (Value.ref.inj q)) (by decide) (by decide) ?_
        show Steps p.tables e below (T220.setTop (mkF m 11 #[.val (.ref a_HasComponent), .val (.ref t), .val (.ref a_Aggregates)] [])) _
        refine XS.aloadN X220.here hx rfl (hb hby d3_11) rfl rfl ?_
        show Steps p.tables e below (T220.setTop (mkF m 12 #[.val (.ref a_HasComponent), .val (.ref t), .val (.ref a_Aggregates)] [(.ref a_Aggregates)])) _
        exact kq)
      obtain ⟨T226, X226, e226, st226⟩ := getF X220 hx hZ hown (host := "") (Or.inl (hw _ (List.mem_of_getElem? (i := 18) rfl))) Via.refl e220 F_a_Aggregates_supertype (g := (mkF m 12 #[.val (.ref a_HasComponent), .val (.ref t), .val (.ref a_Aggregates)] [(.ref a_Aggregates)])) rfl rfl (hb hby d3_12)
      have G227 : Go p e below A0 (T226.setTop (mkF m 15 #[.val (.ref a_HasComponent), .val (.ref t), .val (.ref a_Aggregates)] [(.ref a_HasChild)])) := fun tq kq => G225 tq (st226 _ kq)
      have G228 : Go p e below A0 (T226.setTop (mkF m 8 #[.val (.ref a_HasComponent), .val (.ref t), .val (.ref a_HasChild)] [(.ref t), (.ref a_HasChild)])) := fun tq kq => G227 tq (by
        refine XS.astoreN X226.here hx rfl (hb hby d3_15) rfl rfl (l' := #[.val (.ref a_HasComponent), .val (.ref t), .val (.ref a_HasChild)]) rfl ?_
        show Steps p.tables e below (T226.setTop (mkF m 16 #[.val (.ref a_HasComponent), .val (.ref t), .val (.ref a_HasChild)] [])) _
        refine XS.goto X226.here hx rfl (pc0 := 16) (pc' := 2) rfl (hb hby d3_16) (by decide) (by decide) ?_
        show Steps p.tables e below (T226.setTop (mkF m 2 #[.val (.ref a_HasComponent), .val (.ref t), .val (.ref a_HasChild)] [])) _
        refine XS.aloadN X226.here hx rfl (hb hby d3_2) rfl rfl ?_
        show Steps p.tables e below (T226.setTop (mkF m 3 #[.val (.ref a_HasComponent), .val (.ref t), .val (.ref a_HasChild)] [(.ref a_HasChild)])) _
        refine XS.ifnullNo X226.here hx rfl (hb hby d3_3) rfl ?_
        show Steps p.tables e below (T226.setTop (mkF m 6 #[.val (.ref a_HasComponent), .val (.ref t), .val (.ref a_HasChild)] [])) _
        refine XS.aloadN X226.here hx rfl (hb hby d3_6) rfl rfl ?_
        show Steps p.tables e below (T226.setTop (mkF m 7 #[.val (.ref a_HasComponent), .val (.ref t), .val (.ref a_HasChild)] [(.ref a_HasChild)])) _
        refine XS.aloadN X226.here hx rfl (hb hby d3_7) rfl rfl ?_
        show Steps p.tables e below (T226.setTop (mkF m 8 #[.val (.ref a_HasComponent), .val (.ref t), .val (.ref a_HasChild)] [(.ref t), (.ref a_HasChild)])) _
        exact kq)
      by_cases hc229 : a_HasChild = t
      · have G230 : Go p e below A0 (T226.setTop (mkF m 29 #[.val (.ref a_HasComponent), .val (.ref t), .val (.ref a_HasChild)] [(.int (1 : Int32))])) := fun tq kq => G228 tq (by
          refine Jvm.RoadKit.acmp (g := (mkF m 8 #[.val (.ref a_HasComponent), .val (.ref t), .val (.ref a_HasChild)] [(.ref t), (.ref a_HasChild)])) X226 hx rfl rfl rfl (pc0 := 8) (pc' := 19) (same := true) rfl (hb hby d3_8) rfl (decide_eq_true (congrArg Value.ref hc229)) (by decide) (by decide) ?_
          show Steps p.tables e below (T226.setTop (mkF m 19 #[.val (.ref a_HasComponent), .val (.ref t), .val (.ref a_HasChild)] [])) _
          refine XS.aloadN X226.here hx rfl (hb hby d3_19) rfl rfl ?_
          show Steps p.tables e below (T226.setTop (mkF m 20 #[.val (.ref a_HasComponent), .val (.ref t), .val (.ref a_HasChild)] [(.ref a_HasChild)])) _
          refine XS.aloadN X226.here hx rfl (hb hby d3_20) rfl rfl ?_
          show Steps p.tables e below (T226.setTop (mkF m 21 #[.val (.ref a_HasComponent), .val (.ref t), .val (.ref a_HasChild)] [(.ref t), (.ref a_HasChild)])) _
          refine Jvm.RoadKit.acmp (g := (mkF m 21 #[.val (.ref a_HasComponent), .val (.ref t), .val (.ref a_HasChild)] [(.ref t), (.ref a_HasChild)])) X226 hx rfl rfl rfl (pc0 := 21) (pc' := 24) (same := true) rfl (hb hby d3_21) rfl (decide_eq_true (congrArg Value.ref hc229)) (by decide) (by decide) ?_
          show Steps p.tables e below (T226.setTop (mkF m 24 #[.val (.ref a_HasComponent), .val (.ref t), .val (.ref a_HasChild)] [])) _
          refine XS.iconst X226.here hx rfl (hb hby d3_24) ?_
          show Steps p.tables e below (T226.setTop (mkF m 25 #[.val (.ref a_HasComponent), .val (.ref t), .val (.ref a_HasChild)] [(.int (1 : Int32))])) _
          refine XS.goto X226.here hx rfl (pc0 := 25) (pc' := 29) rfl (hb hby d3_25) (by decide) (by decide) ?_
          show Steps p.tables e below (T226.setTop (mkF m 29 #[.val (.ref a_HasComponent), .val (.ref t), .val (.ref a_HasChild)] [(.int (1 : Int32))])) _
          exact kq)
        obtain ⟨fs, hr, hrun, hended, hW, hsame⟩ := X226.leave (v := some (.int (nar .boolean (1 : Int32)))) (fun h => by rw [Bd.returns] at h; cases h)
        refine ⟨_, _, (by rw [← hA0]; exact G230 _ (retN X226 hx (t := .boolean) Bd.returns (by simp) (hb hby d3_29) hr)), hrun, hended, _, _, rfl, ?_, ⟨_, rfl⟩, hW, hsame.mono (by decide) (by decide)⟩
        exact ⟨(by rw [show own_b (a_HasComponent = t ∨ a_Aggregates = t ∨ a_HasChild = t ∨ a_HierarchicalReferences = t ∨ a_References = t) = (1 : Int32) from by simp [own_b, hc217, hc223, hc229]]; rfl), N0, e226⟩
      · have G231 : Go p e below A0 (T226.setTop (mkF m 12 #[.val (.ref a_HasComponent), .val (.ref t), .val (.ref a_HasChild)] [(.ref a_HasChild)])) := fun tq kq => G228 tq (by
          refine Jvm.RoadKit.acmp (g := (mkF m 8 #[.val (.ref a_HasComponent), .val (.ref t), .val (.ref a_HasChild)] [(.ref t), (.ref a_HasChild)])) X226 hx rfl rfl rfl (pc0 := 8) (pc' := 11) (same := false) rfl (hb hby d3_8) rfl (decide_eq_false fun q => hc229 (Value.ref.inj q)) (by decide) (by decide) ?_
          show Steps p.tables e below (T226.setTop (mkF m 11 #[.val (.ref a_HasComponent), .val (.ref t), .val (.ref a_HasChild)] [])) _
          refine XS.aloadN X226.here hx rfl (hb hby d3_11) rfl rfl ?_
          show Steps p.tables e below (T226.setTop (mkF m 12 #[.val (.ref a_HasComponent), .val (.ref t), .val (.ref a_HasChild)] [(.ref a_HasChild)])) _
          exact kq)
        obtain ⟨T232, X232, e232, st232⟩ := getF X226 hx hZ hown (host := "") (Or.inl (hw _ (List.mem_of_getElem? (i := 18) rfl))) Via.refl e226 F_a_HasChild_supertype (g := (mkF m 12 #[.val (.ref a_HasComponent), .val (.ref t), .val (.ref a_HasChild)] [(.ref a_HasChild)])) rfl rfl (hb hby d3_12)
        have G233 : Go p e below A0 (T232.setTop (mkF m 15 #[.val (.ref a_HasComponent), .val (.ref t), .val (.ref a_HasChild)] [(.ref a_HierarchicalReferences)])) := fun tq kq => G231 tq (st232 _ kq)
        have G234 : Go p e below A0 (T232.setTop (mkF m 8 #[.val (.ref a_HasComponent), .val (.ref t), .val (.ref a_HierarchicalReferences)] [(.ref t), (.ref a_HierarchicalReferences)])) := fun tq kq => G233 tq (by
          refine XS.astoreN X232.here hx rfl (hb hby d3_15) rfl rfl (l' := #[.val (.ref a_HasComponent), .val (.ref t), .val (.ref a_HierarchicalReferences)]) rfl ?_
          show Steps p.tables e below (T232.setTop (mkF m 16 #[.val (.ref a_HasComponent), .val (.ref t), .val (.ref a_HierarchicalReferences)] [])) _
          refine XS.goto X232.here hx rfl (pc0 := 16) (pc' := 2) rfl (hb hby d3_16) (by decide) (by decide) ?_
          show Steps p.tables e below (T232.setTop (mkF m 2 #[.val (.ref a_HasComponent), .val (.ref t), .val (.ref a_HierarchicalReferences)] [])) _
          refine XS.aloadN X232.here hx rfl (hb hby d3_2) rfl rfl ?_
          show Steps p.tables e below (T232.setTop (mkF m 3 #[.val (.ref a_HasComponent), .val (.ref t), .val (.ref a_HierarchicalReferences)] [(.ref a_HierarchicalReferences)])) _
          refine XS.ifnullNo X232.here hx rfl (hb hby d3_3) rfl ?_
          show Steps p.tables e below (T232.setTop (mkF m 6 #[.val (.ref a_HasComponent), .val (.ref t), .val (.ref a_HierarchicalReferences)] [])) _
          refine XS.aloadN X232.here hx rfl (hb hby d3_6) rfl rfl ?_
          show Steps p.tables e below (T232.setTop (mkF m 7 #[.val (.ref a_HasComponent), .val (.ref t), .val (.ref a_HierarchicalReferences)] [(.ref a_HierarchicalReferences)])) _
          refine XS.aloadN X232.here hx rfl (hb hby d3_7) rfl rfl ?_
          show Steps p.tables e below (T232.setTop (mkF m 8 #[.val (.ref a_HasComponent), .val (.ref t), .val (.ref a_HierarchicalReferences)] [(.ref t), (.ref a_HierarchicalReferences)])) _
          exact kq)
        by_cases hc235 : a_HierarchicalReferences = t
        · have G236 : Go p e below A0 (T232.setTop (mkF m 29 #[.val (.ref a_HasComponent), .val (.ref t), .val (.ref a_HierarchicalReferences)] [(.int (1 : Int32))])) := fun tq kq => G234 tq (by
            refine Jvm.RoadKit.acmp (g := (mkF m 8 #[.val (.ref a_HasComponent), .val (.ref t), .val (.ref a_HierarchicalReferences)] [(.ref t), (.ref a_HierarchicalReferences)])) X232 hx rfl rfl rfl (pc0 := 8) (pc' := 19) (same := true) rfl (hb hby d3_8) rfl (decide_eq_true (congrArg Value.ref hc235)) (by decide) (by decide) ?_
            show Steps p.tables e below (T232.setTop (mkF m 19 #[.val (.ref a_HasComponent), .val (.ref t), .val (.ref a_HierarchicalReferences)] [])) _
            refine XS.aloadN X232.here hx rfl (hb hby d3_19) rfl rfl ?_
            show Steps p.tables e below (T232.setTop (mkF m 20 #[.val (.ref a_HasComponent), .val (.ref t), .val (.ref a_HierarchicalReferences)] [(.ref a_HierarchicalReferences)])) _
            refine XS.aloadN X232.here hx rfl (hb hby d3_20) rfl rfl ?_
            show Steps p.tables e below (T232.setTop (mkF m 21 #[.val (.ref a_HasComponent), .val (.ref t), .val (.ref a_HierarchicalReferences)] [(.ref t), (.ref a_HierarchicalReferences)])) _
            refine Jvm.RoadKit.acmp (g := (mkF m 21 #[.val (.ref a_HasComponent), .val (.ref t), .val (.ref a_HierarchicalReferences)] [(.ref t), (.ref a_HierarchicalReferences)])) X232 hx rfl rfl rfl (pc0 := 21) (pc' := 24) (same := true) rfl (hb hby d3_21) rfl (decide_eq_true (congrArg Value.ref hc235)) (by decide) (by decide) ?_
            show Steps p.tables e below (T232.setTop (mkF m 24 #[.val (.ref a_HasComponent), .val (.ref t), .val (.ref a_HierarchicalReferences)] [])) _
            refine XS.iconst X232.here hx rfl (hb hby d3_24) ?_
            show Steps p.tables e below (T232.setTop (mkF m 25 #[.val (.ref a_HasComponent), .val (.ref t), .val (.ref a_HierarchicalReferences)] [(.int (1 : Int32))])) _
            refine XS.goto X232.here hx rfl (pc0 := 25) (pc' := 29) rfl (hb hby d3_25) (by decide) (by decide) ?_
            show Steps p.tables e below (T232.setTop (mkF m 29 #[.val (.ref a_HasComponent), .val (.ref t), .val (.ref a_HierarchicalReferences)] [(.int (1 : Int32))])) _
            exact kq)
          obtain ⟨fs, hr, hrun, hended, hW, hsame⟩ := X232.leave (v := some (.int (nar .boolean (1 : Int32)))) (fun h => by rw [Bd.returns] at h; cases h)
          refine ⟨_, _, (by rw [← hA0]; exact G236 _ (retN X232 hx (t := .boolean) Bd.returns (by simp) (hb hby d3_29) hr)), hrun, hended, _, _, rfl, ?_, ⟨_, rfl⟩, hW, hsame.mono (by decide) (by decide)⟩
          exact ⟨(by rw [show own_b (a_HasComponent = t ∨ a_Aggregates = t ∨ a_HasChild = t ∨ a_HierarchicalReferences = t ∨ a_References = t) = (1 : Int32) from by simp [own_b, hc217, hc223, hc229, hc235]]; rfl), N0, e232⟩
        · have G237 : Go p e below A0 (T232.setTop (mkF m 12 #[.val (.ref a_HasComponent), .val (.ref t), .val (.ref a_HierarchicalReferences)] [(.ref a_HierarchicalReferences)])) := fun tq kq => G234 tq (by
            refine Jvm.RoadKit.acmp (g := (mkF m 8 #[.val (.ref a_HasComponent), .val (.ref t), .val (.ref a_HierarchicalReferences)] [(.ref t), (.ref a_HierarchicalReferences)])) X232 hx rfl rfl rfl (pc0 := 8) (pc' := 11) (same := false) rfl (hb hby d3_8) rfl (decide_eq_false fun q => hc235 (Value.ref.inj q)) (by decide) (by decide) ?_
            show Steps p.tables e below (T232.setTop (mkF m 11 #[.val (.ref a_HasComponent), .val (.ref t), .val (.ref a_HierarchicalReferences)] [])) _
            refine XS.aloadN X232.here hx rfl (hb hby d3_11) rfl rfl ?_
            show Steps p.tables e below (T232.setTop (mkF m 12 #[.val (.ref a_HasComponent), .val (.ref t), .val (.ref a_HierarchicalReferences)] [(.ref a_HierarchicalReferences)])) _
            exact kq)
          obtain ⟨T238, X238, e238, st238⟩ := getF X232 hx hZ hown (host := "") (Or.inl (hw _ (List.mem_of_getElem? (i := 18) rfl))) Via.refl e232 F_a_HierarchicalReferences_supertype (g := (mkF m 12 #[.val (.ref a_HasComponent), .val (.ref t), .val (.ref a_HierarchicalReferences)] [(.ref a_HierarchicalReferences)])) rfl rfl (hb hby d3_12)
          have G239 : Go p e below A0 (T238.setTop (mkF m 15 #[.val (.ref a_HasComponent), .val (.ref t), .val (.ref a_HierarchicalReferences)] [(.ref a_References)])) := fun tq kq => G237 tq (st238 _ kq)
          have G240 : Go p e below A0 (T238.setTop (mkF m 8 #[.val (.ref a_HasComponent), .val (.ref t), .val (.ref a_References)] [(.ref t), (.ref a_References)])) := fun tq kq => G239 tq (by
            refine XS.astoreN X238.here hx rfl (hb hby d3_15) rfl rfl (l' := #[.val (.ref a_HasComponent), .val (.ref t), .val (.ref a_References)]) rfl ?_
            show Steps p.tables e below (T238.setTop (mkF m 16 #[.val (.ref a_HasComponent), .val (.ref t), .val (.ref a_References)] [])) _
            refine XS.goto X238.here hx rfl (pc0 := 16) (pc' := 2) rfl (hb hby d3_16) (by decide) (by decide) ?_
            show Steps p.tables e below (T238.setTop (mkF m 2 #[.val (.ref a_HasComponent), .val (.ref t), .val (.ref a_References)] [])) _
            refine XS.aloadN X238.here hx rfl (hb hby d3_2) rfl rfl ?_
            show Steps p.tables e below (T238.setTop (mkF m 3 #[.val (.ref a_HasComponent), .val (.ref t), .val (.ref a_References)] [(.ref a_References)])) _
            refine XS.ifnullNo X238.here hx rfl (hb hby d3_3) rfl ?_
            show Steps p.tables e below (T238.setTop (mkF m 6 #[.val (.ref a_HasComponent), .val (.ref t), .val (.ref a_References)] [])) _
            refine XS.aloadN X238.here hx rfl (hb hby d3_6) rfl rfl ?_
            show Steps p.tables e below (T238.setTop (mkF m 7 #[.val (.ref a_HasComponent), .val (.ref t), .val (.ref a_References)] [(.ref a_References)])) _
            refine XS.aloadN X238.here hx rfl (hb hby d3_7) rfl rfl ?_
            show Steps p.tables e below (T238.setTop (mkF m 8 #[.val (.ref a_HasComponent), .val (.ref t), .val (.ref a_References)] [(.ref t), (.ref a_References)])) _
            exact kq)
          by_cases hc241 : a_References = t
          · have G242 : Go p e below A0 (T238.setTop (mkF m 29 #[.val (.ref a_HasComponent), .val (.ref t), .val (.ref a_References)] [(.int (1 : Int32))])) := fun tq kq => G240 tq (by
              refine Jvm.RoadKit.acmp (g := (mkF m 8 #[.val (.ref a_HasComponent), .val (.ref t), .val (.ref a_References)] [(.ref t), (.ref a_References)])) X238 hx rfl rfl rfl (pc0 := 8) (pc' := 19) (same := true) rfl (hb hby d3_8) rfl (decide_eq_true (congrArg Value.ref hc241)) (by decide) (by decide) ?_
              show Steps p.tables e below (T238.setTop (mkF m 19 #[.val (.ref a_HasComponent), .val (.ref t), .val (.ref a_References)] [])) _
              refine XS.aloadN X238.here hx rfl (hb hby d3_19) rfl rfl ?_
              show Steps p.tables e below (T238.setTop (mkF m 20 #[.val (.ref a_HasComponent), .val (.ref t), .val (.ref a_References)] [(.ref a_References)])) _
              refine XS.aloadN X238.here hx rfl (hb hby d3_20) rfl rfl ?_
              show Steps p.tables e below (T238.setTop (mkF m 21 #[.val (.ref a_HasComponent), .val (.ref t), .val (.ref a_References)] [(.ref t), (.ref a_References)])) _
              refine Jvm.RoadKit.acmp (g := (mkF m 21 #[.val (.ref a_HasComponent), .val (.ref t), .val (.ref a_References)] [(.ref t), (.ref a_References)])) X238 hx rfl rfl rfl (pc0 := 21) (pc' := 24) (same := true) rfl (hb hby d3_21) rfl (decide_eq_true (congrArg Value.ref hc241)) (by decide) (by decide) ?_
              show Steps p.tables e below (T238.setTop (mkF m 24 #[.val (.ref a_HasComponent), .val (.ref t), .val (.ref a_References)] [])) _
              refine XS.iconst X238.here hx rfl (hb hby d3_24) ?_
              show Steps p.tables e below (T238.setTop (mkF m 25 #[.val (.ref a_HasComponent), .val (.ref t), .val (.ref a_References)] [(.int (1 : Int32))])) _
              refine XS.goto X238.here hx rfl (pc0 := 25) (pc' := 29) rfl (hb hby d3_25) (by decide) (by decide) ?_
              show Steps p.tables e below (T238.setTop (mkF m 29 #[.val (.ref a_HasComponent), .val (.ref t), .val (.ref a_References)] [(.int (1 : Int32))])) _
              exact kq)
            obtain ⟨fs, hr, hrun, hended, hW, hsame⟩ := X238.leave (v := some (.int (nar .boolean (1 : Int32)))) (fun h => by rw [Bd.returns] at h; cases h)
            refine ⟨_, _, (by rw [← hA0]; exact G242 _ (retN X238 hx (t := .boolean) Bd.returns (by simp) (hb hby d3_29) hr)), hrun, hended, _, _, rfl, ?_, ⟨_, rfl⟩, hW, hsame.mono (by decide) (by decide)⟩
            exact ⟨(by rw [show own_b (a_HasComponent = t ∨ a_Aggregates = t ∨ a_HasChild = t ∨ a_HierarchicalReferences = t ∨ a_References = t) = (1 : Int32) from by simp [own_b, hc217, hc223, hc229, hc235, hc241]]; rfl), N0, e238⟩
          · have G243 : Go p e below A0 (T238.setTop (mkF m 12 #[.val (.ref a_HasComponent), .val (.ref t), .val (.ref a_References)] [(.ref a_References)])) := fun tq kq => G240 tq (by
              refine Jvm.RoadKit.acmp (g := (mkF m 8 #[.val (.ref a_HasComponent), .val (.ref t), .val (.ref a_References)] [(.ref t), (.ref a_References)])) X238 hx rfl rfl rfl (pc0 := 8) (pc' := 11) (same := false) rfl (hb hby d3_8) rfl (decide_eq_false fun q => hc241 (Value.ref.inj q)) (by decide) (by decide) ?_
              show Steps p.tables e below (T238.setTop (mkF m 11 #[.val (.ref a_HasComponent), .val (.ref t), .val (.ref a_References)] [])) _
              refine XS.aloadN X238.here hx rfl (hb hby d3_11) rfl rfl ?_
              show Steps p.tables e below (T238.setTop (mkF m 12 #[.val (.ref a_HasComponent), .val (.ref t), .val (.ref a_References)] [(.ref a_References)])) _
              exact kq)
            obtain ⟨T244, X244, e244, st244⟩ := getF X238 hx hZ hown (host := "") (Or.inl (hw _ (List.mem_of_getElem? (i := 18) rfl))) Via.refl e238 F_a_References_supertype (g := (mkF m 12 #[.val (.ref a_HasComponent), .val (.ref t), .val (.ref a_References)] [(.ref a_References)])) rfl rfl (hb hby d3_12)
            have G245 : Go p e below A0 (T244.setTop (mkF m 15 #[.val (.ref a_HasComponent), .val (.ref t), .val (.ref a_References)] [.null])) := fun tq kq => G243 tq (st244 _ kq)
            have G246 : Go p e below A0 (T244.setTop (mkF m 29 #[.val (.ref a_HasComponent), .val (.ref t), .val .null] [(.int (0 : Int32))])) := fun tq kq => G245 tq (by
              refine XS.astoreN X244.here hx rfl (hb hby d3_15) rfl rfl (l' := #[.val (.ref a_HasComponent), .val (.ref t), .val .null]) rfl ?_
              show Steps p.tables e below (T244.setTop (mkF m 16 #[.val (.ref a_HasComponent), .val (.ref t), .val .null] [])) _
              refine XS.goto X244.here hx rfl (pc0 := 16) (pc' := 2) rfl (hb hby d3_16) (by decide) (by decide) ?_
              show Steps p.tables e below (T244.setTop (mkF m 2 #[.val (.ref a_HasComponent), .val (.ref t), .val .null] [])) _
              refine XS.aloadN X244.here hx rfl (hb hby d3_2) rfl rfl ?_
              show Steps p.tables e below (T244.setTop (mkF m 3 #[.val (.ref a_HasComponent), .val (.ref t), .val .null] [.null])) _
              refine XS.ifnullYes X244.here hx rfl (pc0 := 3) (pc' := 19) rfl (hb hby d3_3) rfl (by decide) (by decide) ?_
              show Steps p.tables e below (T244.setTop (mkF m 19 #[.val (.ref a_HasComponent), .val (.ref t), .val .null] [])) _
              refine XS.aloadN X244.here hx rfl (hb hby d3_19) rfl rfl ?_
              show Steps p.tables e below (T244.setTop (mkF m 20 #[.val (.ref a_HasComponent), .val (.ref t), .val .null] [.null])) _
              refine XS.aloadN X244.here hx rfl (hb hby d3_20) rfl rfl ?_
              show Steps p.tables e below (T244.setTop (mkF m 21 #[.val (.ref a_HasComponent), .val (.ref t), .val .null] [(.ref t), .null])) _
              refine Jvm.RoadKit.acmp (g := (mkF m 21 #[.val (.ref a_HasComponent), .val (.ref t), .val .null] [(.ref t), .null])) X244 hx rfl rfl rfl (pc0 := 21) (pc' := 28) (same := false) rfl (hb hby d3_21) rfl (decide_eq_false nofun) (by decide) (by decide) ?_
              show Steps p.tables e below (T244.setTop (mkF m 28 #[.val (.ref a_HasComponent), .val (.ref t), .val .null] [])) _
              refine XS.iconst X244.here hx rfl (hb hby d3_28) ?_
              show Steps p.tables e below (T244.setTop (mkF m 29 #[.val (.ref a_HasComponent), .val (.ref t), .val .null] [(.int (0 : Int32))])) _
              exact kq)
            obtain ⟨fs, hr, hrun, hended, hW, hsame⟩ := X244.leave (v := some (.int (nar .boolean (0 : Int32)))) (fun h => by rw [Bd.returns] at h; cases h)
            refine ⟨_, _, (by rw [← hA0]; exact G246 _ (retN X244 hx (t := .boolean) Bd.returns (by simp) (hb hby d3_29) hr)), hrun, hended, _, _, rfl, ?_, ⟨_, rfl⟩, hW, hsame.mono (by decide) (by decide)⟩
            exact ⟨(by rw [show own_b (a_HasComponent = t ∨ a_Aggregates = t ∨ a_HasChild = t ∨ a_HierarchicalReferences = t ∨ a_References = t) = (0 : Int32) from by simp [own_b, hc217, hc223, hc229, hc235, hc241]]; rfl), N0, e244⟩
set_option maxRecDepth 65536 in
set_option maxHeartbeats 40000000 in
theorem rm3_8 (l : Launch) (Z : State) (a0 : Array Value) (hw : ∀ d ∈ tables_1, d.before a0 Z = true) (ws : List Jvm.Cond) (a_NonHierarchicalReferences a_References t : Addr) (h0 : Heap) (n0 : Nat) (Z0 : n0 ≤ h0.size) (F_a_NonHierarchicalReferences_supertype : Fld Z h0 a_NonHierarchicalReferences "com/example/halyard/halyard/server/ReferenceType" "supertype" "Lcom/example/halyard/halyard/server/ReferenceType;" (.ref a_References)) (F_a_References_supertype : Fld Z h0 a_References "com/example/halyard/halyard/server/ReferenceType" "supertype" "Lcom/example/halyard/halyard/server/ReferenceType;" .null) :
    MetFree l (⟨"com/example/halyard/halyard/server/ReferenceType", "isSubtypeOf", "(Lcom/example/halyard/halyard/server/ReferenceType;)Z"⟩ : MethodName) (head1 (Jvm.Cond.code (⟨"com/example/halyard/halyard/server/ReferenceType", "isSubtypeOf", "(Lcom/example/halyard/halyard/server/ReferenceType;)Z"⟩ : MethodName) prog_116_method_8_code 3 (some .boolean) :: ws) ({ frames := 0, cells := 0, slots := 0, locals := 0 } : Room)) (fun aa UU => aa = #[(.ref a_NonHierarchicalReferences), (.ref t)] ∧ Z.Warmed39 UU.vm ∧ UU.heap = h0) (fun _ _ _ _ _ => True) (fun _ UU oo U' => ∃ v L, oo = .returned v ∧ Qr (.int (own_b (a_NonHierarchicalReferences = t ∨ a_References = t))) h0 n0 v U'.heap L ∧ FrameEnd UU oo U' L ({ frames := 0, cells := 0, slots := 0, locals := 0 } : Room).cells ({ frames := 0, cells := 0, slots := 0, locals := 0 } : Room).slots) := by
  refine MetFree.of_bodySF (plainFor_of_name pn_1) hisR ?_
  intro p e s m args below meth c s₁ Bd hml0 hP hK
  obtain ⟨rfl, hZ, hh⟩ := hP
  have hx := Bd.exec
  have hby := Bd.bytes
  have hml : c.maxLocals = 3 := hml0
  have hown : s.vm.findClass "com/example/halyard/halyard/server/ReferenceType" = some m.cls := findClass_of_methodNamed Bd.named
  have hnm := (name_of_methodNamed Bd.named Bd.method).1
  have X0 : Stand p l e ({ frames := 0, cells := 0, slots := 0, locals := 0 } : Room) s m #[(.ref a_NonHierarchicalReferences), (.ref t)] below meth c s₁ [] 0 0 := Stand.of_body Bd
  have e0 : s₁.heap = h0 := by rw [← hh, Bd.state]; rfl
  have N0 := Fr.nil n0
  obtain ⟨A0, hA0⟩ : ∃ A, A = s₁.setTop (entryFrame m #[(.ref a_NonHierarchicalReferences), (.ref t)] 3) := ⟨_, rfl⟩
  have G0 : Go p e below A0 (s₁.setTop (mkF m 0 #[.val (.ref a_NonHierarchicalReferences), .val (.ref t), .unset] [])) := fun tq kq => by rw [hA0]; exact castTop (ef_rm3_8 m a_NonHierarchicalReferences t) kq
  have G247 : Go p e below A0 (s₁.setTop (mkF m 8 #[.val (.ref a_NonHierarchicalReferences), .val (.ref t), .val (.ref a_NonHierarchicalReferences)] [(.ref t), (.ref a_NonHierarchicalReferences)])) := fun tq kq => G0 tq (by
    refine XS.aloadN X0.here hx rfl (hb hby d3_0) rfl rfl ?_
    show Steps p.tables e below (s₁.setTop (mkF m 1 #[.val (.ref a_NonHierarchicalReferences), .val (.ref t), .unset] [(.ref a_NonHierarchicalReferences)])) _
    refine XS.astoreN X0.here hx rfl (hb hby d3_1) rfl rfl (l' := #[.val (.ref a_NonHierarchicalReferences), .val (.ref t), .val (.ref a_NonHierarchicalReferences)]) rfl ?_
    show Steps p.tables e below (s₁.setTop (mkF m 2 #[.val (.ref a_NonHierarchicalReferences), .val (.ref t), .val (.ref a_NonHierarchicalReferences)] [])) _
    refine XS.aloadN X0.here hx rfl (hb hby d3_2) rfl rfl ?_
    show Steps p.tables e below (s₁.setTop (mkF m 3 #[.val (.ref a_NonHierarchicalReferences), .val (.ref t), .val (.ref a_NonHierarchicalReferences)] [(.ref a_NonHierarchicalReferences)])) _
    refine XS.ifnullNo X0.here hx rfl (hb hby d3_3) rfl ?_
    show Steps p.tables e below (s₁.setTop (mkF m 6 #[.val (.ref a_NonHierarchicalReferences), .val (.ref t), .val (.ref a_NonHierarchicalReferences)] [])) _
    refine XS.aloadN X0.here hx rfl (hb hby d3_6) rfl rfl ?_
    show Steps p.tables e below (s₁.setTop (mkF m 7 #[.val (.ref a_NonHierarchicalReferences), .val (.ref t), .val (.ref a_NonHierarchicalReferences)] [(.ref a_NonHierarchicalReferences)])) _
    refine XS.aloadN X0.here hx rfl (hb hby d3_7) rfl rfl ?_
    show Steps p.tables e below (s₁.setTop (mkF m 8 #[.val (.ref a_NonHierarchicalReferences), .val (.ref t), .val (.ref a_NonHierarchicalReferences)] [(.ref t), (.ref a_NonHierarchicalReferences)])) _
    exact kq)
  by_cases hc248 : a_NonHierarchicalReferences = t
  · have G249 : Go p e below A0 (s₁.setTop (mkF m 29 #[.val (.ref a_NonHierarchicalReferences), .val (.ref t), .val (.ref a_NonHierarchicalReferences)] [(.int (1 : Int32))])) := fun tq kq => G247 tq (by
      refine Jvm.RoadKit.acmp (g := (mkF m 8 #[.val (.ref a_NonHierarchicalReferences), .val (.ref t), .val (.ref a_NonHierarchicalReferences)] [(.ref t), (.ref a_NonHierarchicalReferences)])) X0 hx rfl rfl rfl (pc0 := 8) (pc' := 19) (same := true) rfl (hb hby d3_8) rfl (decide_eq_true (congrArg Value.ref hc248)) (by decide) (by decide) ?_
      show Steps p.tables e below (s₁.setTop (mkF m 19 #[.val (.ref a_NonHierarchicalReferences), .val (.ref t), .val (.ref a_NonHierarchicalReferences)] [])) _
      refine XS.aloadN X0.here hx rfl (hb hby d3_19) rfl rfl ?_
      show Steps p.tables e below (s₁.setTop (mkF m 20 #[.val (.ref a_NonHierarchicalReferences), .val (.ref t), .val (.ref a_NonHierarchicalReferences)] [(.ref a_NonHierarchicalReferences)])) _
      refine XS.aloadN X0.here hx rfl (hb hby d3_20) rfl rfl ?_
      show Steps p.tables e below (s₁.setTop (mkF m 21 #[.val (.ref a_NonHierarchicalReferences), .val (.ref t), .val (.ref a_NonHierarchicalReferences)] [(.ref t), (.ref a_NonHierarchicalReferences)])) _
      refine Jvm.RoadKit.acmp (g := (mkF m 21 #[.val (.ref a_NonHierarchicalReferences), .val (.ref t), .val (.ref a_NonHierarchicalReferences)] [(.ref t), (.ref a_NonHierarchicalReferences)])) X0 hx rfl rfl rfl (pc0 := 21) (pc' := 24) (same := true) rfl (hb hby d3_21) rfl (decide_eq_true (congrArg Value.ref hc248)) (by decide) (by decide) ?_
      show Steps p.tables e below (s₁.setTop (mkF m 24 #[.val (.ref a_NonHierarchicalReferences), .val (.ref t), .val (.ref a_NonHierarchicalReferences)] [])) _
      refine XS.iconst X0.here hx rfl (hb hby d3_24) ?_
      show Steps p.tables e below (s₁.setTop (mkF m 25 #[.val (.ref a_NonHierarchicalReferences), .val (.ref t), .val (.ref a_NonHierarchicalReferences)] [(.int (1 : Int32))])) _
      refine XS.goto X0.here hx rfl (pc0 := 25) (pc' := 29) rfl (hb hby d3_25) (by decide) (by decide) ?_
      show Steps p.tables e below (s₁.setTop (mkF m 29 #[.val (.ref a_NonHierarchicalReferences), .val (.ref t), .val (.ref a_NonHierarchicalReferences)] [(.int (1 : Int32))])) _
      exact kq)
    obtain ⟨fs, hr, hrun, hended, hW, hsame⟩ := X0.leave (v := some (.int (nar .boolean (1 : Int32)))) (fun h => by rw [Bd.returns] at h; cases h)
    refine ⟨_, _, (by rw [← hA0]; exact G249 _ (retN X0 hx (t := .boolean) Bd.returns (by simp) (hb hby d3_29) hr)), hrun, hended, _, _, rfl, ?_, ⟨_, rfl⟩, hW, hsame.mono (by decide) (by decide)⟩
    exact ⟨(by rw [show own_b (a_NonHierarchicalReferences = t ∨ a_References = t) = (1 : Int32) from by simp [own_b, hc248]]; rfl), N0, e0⟩
  · have G250 : Go p e below A0 (s₁.setTop (mkF m 12 #[.val (.ref a_NonHierarchicalReferences), .val (.ref t), .val (.ref a_NonHierarchicalReferences)] [(.ref a_NonHierarchicalReferences)])) := fun tq kq => G247 tq (by
      refine Jvm.RoadKit.acmp (g := (mkF m 8 #[.val (.ref a_NonHierarchicalReferences), .val (.ref t), .val (.ref a_NonHierarchicalReferences)] [(.ref t), (.ref a_NonHierarchicalReferences)])) X0 hx rfl rfl rfl (pc0 := 8) (pc' := 11) (same := false) rfl (hb hby d3_8) rfl (decide_eq_false fun q => hc248 (Value.ref.inj q)) (by decide) (by decide) ?_
      show Steps p.tables e below (s₁.setTop (mkF m 11 #[.val (.ref a_NonHierarchicalReferences), .val (.ref t), .val (.ref a_NonHierarchicalReferences)] [])) _
      refine XS.aloadN X0.here hx rfl (hb hby d3_11) rfl rfl ?_
      show Steps p.tables e below (s₁.setTop (mkF m 12 #[.val (.ref a_NonHierarchicalReferences), .val (.ref t), .val (.ref a_NonHierarchicalReferences)] [(.ref a_NonHierarchicalReferences)])) _
      exact kq)
    obtain ⟨T251, X251, e251, st251⟩ := getF X0 hx hZ hown (host := "") (Or.inl (hw _ (List.mem_of_getElem? (i := 18) rfl))) Via.refl e0 F_a_NonHierarchicalReferences_supertype (g := (mkF m 12 #[.val (.ref a_NonHierarchicalReferences), .val (.ref t), .val (.ref a_NonHierarchicalReferences)] [(.ref a_NonHierarchicalReferences)])) rfl rfl (hb hby d3_12)
    have G252 : Go p e below A0 (T251.setTop (mkF m 15 #[.val (.ref a_NonHierarchicalReferences), .val (.ref t), .val (.ref a_NonHierarchicalReferences)] [(.ref a_References)])) := fun tq kq => G250 tq (st251 _ kq)
    have G253 : Go p e below A0 (T251.setTop (mkF m 8 #[.val (.ref a_NonHierarchicalReferences), .val (.ref t), .val (.ref a_References)] [(.ref t), (.ref a_References)])) := fun tq kq => G252 tq (by
      refine XS.astoreN X251.here hx rfl (hb hby d3_15) rfl rfl (l' := #[.val (.ref a_NonHierarchicalReferences), .val (.ref t), .val (.ref a_References)]) rfl ?_
      show Steps p.tables e below (T251.setTop (mkF m 16 #[.val (.ref a_NonHierarchicalReferences), .val (.ref t), .val (.ref a_References)] [])) _
      refine XS.goto X251.here hx rfl (pc0 := 16) (pc' := 2) rfl (hb hby d3_16) (by decide) (by decide) ?_
      show Steps p.tables e below (T251.setTop (mkF m 2 #[.val (.ref a_NonHierarchicalReferences), .val (.ref t), .val (.ref a_References)] [])) _
      refine XS.aloadN X251.here hx rfl (hb hby d3_2) rfl rfl ?_
      show Steps p.tables e below (T251.setTop (mkF m 3 #[.val (.ref a_NonHierarchicalReferences), .val (.ref t), .val (.ref a_References)] [(.ref a_References)])) _
      refine XS.ifnullNo X251.here hx rfl (hb hby d3_3) rfl ?_
      show Steps p.tables e below (T251.setTop (mkF m 6 #[.val (.ref a_NonHierarchicalReferences), .val (.ref t), .val (.ref a_References)] [])) _
      refine XS.aloadN X251.here hx rfl (hb hby d3_6) rfl rfl ?_
      show Steps p.tables e below (T251.setTop (mkF m 7 #[.val (.ref a_NonHierarchicalReferences), .val (.ref t), .val (.ref a_References)] [(.ref a_References)])) _
      refine XS.aloadN X251.here hx rfl (hb hby d3_7) rfl rfl ?_
      show Steps p.tables e below (T251.setTop (mkF m 8 #[.val (.ref a_NonHierarchicalReferences), .val (.ref t), .val (.ref a_References)] [(.ref t), (.ref a_References)])) _
      exact kq)
    by_cases hc254 : a_References = t
    · have G255 : Go p e below A0 (T251.setTop (mkF m 29 #[.val (.ref a_NonHierarchicalReferences), .val (.ref t), .val (.ref a_References)] [(.int (1 : Int32))])) := fun tq kq => G253 tq (by
        refine Jvm.RoadKit.acmp (g := (mkF m 8 #[.val (.ref a_NonHierarchicalReferences), .val (.ref t), .val (.ref a_References)] [(.ref t), (.ref a_References)])) X251 hx rfl rfl rfl (pc0 := 8) (pc' := 19) (same := true) rfl (hb hby d3_8) rfl (decide_eq_true (congrArg Value.ref hc254)) (by decide) (by decide) ?_
        show Steps p.tables e below (T251.setTop (mkF m 19 #[.val (.ref a_NonHierarchicalReferences), .val (.ref t), .val (.ref a_References)] [])) _
        refine XS.aloadN X251.here hx rfl (hb hby d3_19) rfl rfl ?_
        show Steps p.tables e below (T251.setTop (mkF m 20 #[.val (.ref a_NonHierarchicalReferences), .val (.ref t), .val (.ref a_References)] [(.ref a_References)])) _
        refine XS.aloadN X251.here hx rfl (hb hby d3_20) rfl rfl ?_
        show Steps p.tables e below (T251.setTop (mkF m 21 #[.val (.ref a_NonHierarchicalReferences), .val (.ref t), .val (.ref a_References)] [(.ref t), (.ref a_References)])) _
        refine Jvm.RoadKit.acmp (g := (mkF m 21 #[.val (.ref a_NonHierarchicalReferences), .val (.ref t), .val (.ref a_References)] [(.ref t), (.ref a_References)])) X251 hx rfl rfl rfl (pc0 := 21) (pc' := 24) (same := true) rfl (hb hby d3_21) rfl (decide_eq_true (congrArg Value.ref hc254)) (by decide) (by decide) ?_
        show Steps p.tables e below (T251.setTop (mkF m 24 #[.val (.ref a_NonHierarchicalReferences), .val (.ref t), .val (.ref a_References)] [])) _
        refine XS.iconst X251.here hx rfl (hb hby d3_24) ?_
        show Steps p.tables e below (T251.setTop (mkF m 25 #[.val (.ref a_NonHierarchicalReferences), .val (.ref t), .val (.ref a_References)] [(.int (1 : Int32))])) _
        refine XS.goto X251.here hx rfl (pc0 := 25) (pc' := 29) rfl (hb hby d3_25) (by decide) (by decide) ?_
        show Steps p.tables e below (T251.setTop (mkF m 29 #[.val (.ref a_NonHierarchicalReferences), .val (.ref t), .val (.ref a_References)] [(.int (1 : Int32))])) _
        exact kq)
      obtain ⟨fs, hr, hrun, hended, hW, hsame⟩ := X251.leave (v := some (.int (nar .boolean (1 : Int32)))) (fun h => by rw [Bd.returns] at h; cases h)
      refine ⟨_, _, (by rw [← hA0]; exact G255 _ (retN X251 hx (t := .boolean) Bd.returns (by simp) (hb hby d3_29) hr)), hrun, hended, _, _, rfl, ?_, ⟨_, rfl⟩, hW, hsame.mono (by decide) (by decide)⟩
      exact ⟨(by rw [show own_b (a_NonHierarchicalReferences = t ∨ a_References = t) = (1 : Int32) from by simp [own_b, hc248, hc254]]; rfl), N0, e251⟩
    · have G256 : Go p e below A0 (T251.setTop (mkF m 12 #[.val (.ref a_NonHierarchicalReferences), .val (.ref t), .val (.ref a_References)] [(.ref a_References)])) := fun tq kq => G253 tq (by
        refine Jvm.RoadKit.acmp (g := (mkF m 8 #[.val (.ref a_NonHierarchicalReferences), .val (.ref t), .val (.ref a_References)] [(.ref t), (.ref a_References)])) X251 hx rfl rfl rfl (pc0 := 8) (pc' := 11) (same := false) rfl (hb hby d3_8) rfl (decide_eq_false fun q => hc254 (Value.ref.inj q)) (by decide) (by decide) ?_
        show Steps p.tables e below (T251.setTop (mkF m 11 #[.val (.ref a_NonHierarchicalReferences), .val (.ref t), .val (.ref a_References)] [])) _
        refine XS.aloadN X251.here hx rfl (hb hby d3_11) rfl rfl ?_
        show Steps p.tables e below (T251.setTop (mkF m 12 #[.val (.ref a_NonHierarchicalReferences), .val (.ref t), .val (.ref a_References)] [(.ref a_References)])) _
        exact kq)
      obtain ⟨T257, X257, e257, st257⟩ := getF X251 hx hZ hown (host := "") (Or.inl (hw _ (List.mem_of_getElem? (i := 18) rfl))) Via.refl e251 F_a_References_supertype (g := (mkF m 12 #[.val (.ref a_NonHierarchicalReferences), .val (.ref t), .val (.ref a_References)] [(.ref a_References)])) rfl rfl (hb hby d3_12)
      have G258 : Go p e below A0 (T257.setTop (mkF m 15 #[.val (.ref a_NonHierarchicalReferences), .val (.ref t), .val (.ref a_References)] [.null])) := fun tq kq => G256 tq (st257 _ kq)
      have G259 : Go p e below A0 (T257.setTop (mkF m 29 #[.val (.ref a_NonHierarchicalReferences), .val (.ref t), .val .null] [(.int (0 : Int32))])) := fun tq kq => G258 tq (by
        refine XS.astoreN X257.here hx rfl (hb hby d3_15) rfl rfl (l' := #[.val (.ref a_NonHierarchicalReferences), .val (.ref t), .val .null]) rfl ?_
        show Steps p.tables e below (T257.setTop (mkF m 16 #[.val (.ref a_NonHierarchicalReferences), .val (.ref t), .val .null] [])) _
        refine XS.goto X257.here hx rfl (pc0 := 16) (pc' := 2) rfl (hb hby d3_16) (by decide) (by decide) ?_
        show Steps p.tables e below (T257.setTop (mkF m 2 #[.val (.ref a_NonHierarchicalReferences), .val (.ref t), .val .null] [])) _
        refine XS.aloadN X257.here hx rfl (hb hby d3_2) rfl rfl ?_
        show Steps p.tables e below (T257.setTop (mkF m 3 #[.val (.ref a_NonHierarchicalReferences), .val (.ref t), .val .null] [.null])) _
        refine XS.ifnullYes X257.here hx rfl (pc0 := 3) (pc' := 19) rfl (hb hby d3_3) rfl (by decide) (by decide) ?_
        show Steps p.tables e below (T257.setTop (mkF m 19 #[.val (.ref a_NonHierarchicalReferences), .val (.ref t), .val .null] [])) _
        refine XS.aloadN X257.here hx rfl (hb hby d3_19) rfl rfl ?_
        show Steps p.tables e below (T257.setTop (mkF m 20 #[.val (.ref a_NonHierarchicalReferences), .val (.ref t), .val .null] [.null])) _
        refine XS.aloadN X257.here hx rfl (hb hby d3_20) rfl rfl ?_
        show Steps p.tables e below (T257.setTop (mkF m 21 #[.val (.ref a_NonHierarchicalReferences), .val (.ref t), .val .null] [(.ref t), .null])) _
        refine Jvm.RoadKit.acmp (g := (mkF m 21 #[.val (.ref a_NonHierarchicalReferences), .val (.ref t), .val .null] [(.ref t), .null])) X257 hx rfl rfl rfl (pc0 := 21) (pc' := 28) (same := false) rfl (hb hby d3_21) rfl (decide_eq_false nofun) (by decide) (by decide) ?_
        show Steps p.tables e below (T257.setTop (mkF m 28 #[.val (.ref a_NonHierarchicalReferences), .val (.ref t), .val .null] [])) _
        refine XS.iconst X257.here hx rfl (hb hby d3_28) ?_
        show Steps p.tables e below (T257.setTop (mkF m 29 #[.val (.ref a_NonHierarchicalReferences), .val (.ref t), .val .null] [(.int (0 : Int32))])) _
        exact kq)
      obtain ⟨fs, hr, hrun, hended, hW, hsame⟩ := X257.leave (v := some (.int (nar .boolean (0 : Int32)))) (fun h => by rw [Bd.returns] at h; cases h)
      refine ⟨_, _, (by rw [← hA0]; exact G259 _ (retN X257 hx (t := .boolean) Bd.returns (by simp) (hb hby d3_29) hr)), hrun, hended, _, _, rfl, ?_, ⟨_, rfl⟩, hW, hsame.mono (by decide) (by decide)⟩
      exact ⟨(by rw [show own_b (a_NonHierarchicalReferences = t ∨ a_References = t) = (0 : Int32) from by simp [own_b, hc248, hc254]]; rfl), N0, e257⟩
set_option maxRecDepth 65536 in
set_option maxHeartbeats 40000000 in
theorem rm3_9 (l : Launch) (Z : State) (a0 : Array Value) (hw : ∀ d ∈ tables_1, d.before a0 Z = true) (ws : List Jvm.Cond) (a_HasTypeDefinition a_NonHierarchicalReferences a_References t : Addr) (h0 : Heap) (n0 : Nat) (Z0 : n0 ≤ h0.size) (F_a_HasTypeDefinition_supertype : Fld Z h0 a_HasTypeDefinition "com/example/halyard/halyard/server/ReferenceType" "supertype" "Lcom/example/halyard/halyard/server/ReferenceType;" (.ref a_NonHierarchicalReferences)) (F_a_NonHierarchicalReferences_supertype : Fld Z h0 a_NonHierarchicalReferences "com/example/halyard/halyard/server/ReferenceType" "supertype" "Lcom/example/halyard/halyard/server/ReferenceType;" (.ref a_References)) (F_a_References_supertype : Fld Z h0 a_References "com/example/halyard/halyard/server/ReferenceType" "supertype" "Lcom/example/halyard/halyard/server/ReferenceType;" .null) :
    MetFree l (⟨"com/example/halyard/halyard/server/ReferenceType", "isSubtypeOf", "(Lcom/example/halyard/halyard/server/ReferenceType;)Z"⟩ : MethodName) (head1 (Jvm.Cond.code (⟨"com/example/halyard/halyard/server/ReferenceType", "isSubtypeOf", "(Lcom/example/halyard/halyard/server/ReferenceType;)Z"⟩ : MethodName) prog_116_method_8_code 3 (some .boolean) :: ws) ({ frames := 0, cells := 0, slots := 0, locals := 0 } : Room)) (fun aa UU => aa = #[(.ref a_HasTypeDefinition), (.ref t)] ∧ Z.Warmed39 UU.vm ∧ UU.heap = h0) (fun _ _ _ _ _ => True) (fun _ UU oo U' => ∃ v L, oo = .returned v ∧ Qr (.int (own_b (a_HasTypeDefinition = t ∨ a_NonHierarchicalReferences = t ∨ a_References = t))) h0 n0 v U'.heap L ∧ FrameEnd UU oo U' L ({ frames := 0, cells := 0, slots := 0, locals := 0 } : Room).cells ({ frames := 0, cells := 0, slots := 0, locals := 0 } : Room).slots) := by
  refine MetFree.of_bodySF (plainFor_of_name pn_1) hisR ?_
  intro p e s m args below meth c s₁ Bd hml0 hP hK
  obtain ⟨rfl, hZ, hh⟩ := hP
  have hx := Bd.exec
  have hby := Bd.bytes
  have hml : c.maxLocals = 3 := hml0
  have hown : s.vm.findClass "com/example/halyard/halyard/server/ReferenceType" = some m.cls := findClass_of_methodNamed Bd.named
  have hnm := (name_of_methodNamed Bd.named Bd.method).1
  have X0 : Stand p l e ({ frames := 0, cells := 0, slots := 0, locals := 0 } : Room) s m #[(.ref a_HasTypeDefinition), (.ref t)] below meth c s₁ [] 0 0 := Stand.of_body Bd
  have e0 : s₁.heap = h0 := by rw [← hh, Bd.state]; rfl
  have N0 := Fr.nil n0
  obtain ⟨A0, hA0⟩ : ∃ A, A = s₁.setTop (entryFrame m #[(.ref a_HasTypeDefinition), (.ref t)] 3) := ⟨_, rfl⟩
  have G0 : Go p e below A0 (s₁.setTop (mkF m 0 #[.val (.ref a_HasTypeDefinition), .val (.ref t), .unset] [])) := fun tq kq => by rw [hA0]; exact castTop (ef_rm3_9 m a_HasTypeDefinition t) kq
  have G260 : Go p e below A0 (s₁.setTop (mkF m 8 #[.val (.ref a_HasTypeDefinition), .val (.ref t), .val (.ref a_HasTypeDefinition)] [(.ref t), (.ref a_HasTypeDefinition)])) := fun tq kq => G0 tq (by
    refine XS.aloadN X0.here hx rfl (hb hby d3_0) rfl rfl ?_
    show Steps p.tables e below (s₁.setTop (mkF m 1 #[.val (.ref a_HasTypeDefinition), .val (.ref t), .unset] [(.ref a_HasTypeDefinition)])) _
    refine XS.astoreN X0.here hx rfl (hb hby d3_1) rfl rfl (l' := #[.val (.ref a_HasTypeDefinition), .val (.ref t), .val (.ref a_HasTypeDefinition)]) rfl ?_
    show Steps p.tables e below (s₁.setTop (mkF m 2 #[.val (.ref a_HasTypeDefinition), .val (.ref t), .val (.ref a_HasTypeDefinition)] [])) _
    refine XS.aloadN X0.here hx rfl (hb hby d3_2) rfl rfl ?_
    show Steps p.tables e below (s₁.setTop (mkF m 3 #[.val (.ref a_HasTypeDefinition), .val (.ref t), .val (.ref a_HasTypeDefinition)] [(.ref a_HasTypeDefinition)])) _
    refine XS.ifnullNo X0.here hx rfl (hb hby d3_3) rfl ?_
    show Steps p.tables e below (s₁.setTop (mkF m 6 #[.val (.ref a_HasTypeDefinition), .val (.ref t), .val (.ref a_HasTypeDefinition)] [])) _
    refine XS.aloadN X0.here hx rfl (hb hby d3_6) rfl rfl ?_
    show Steps p.tables e below (s₁.setTop (mkF m 7 #[.val (.ref a_HasTypeDefinition), .val (.ref t), .val (.ref a_HasTypeDefinition)] [(.ref a_HasTypeDefinition)])) _
    refine XS.aloadN X0.here hx rfl (hb hby d3_7) rfl rfl ?_
    show Steps p.tables e below (s₁.setTop (mkF m 8 #[.val (.ref a_HasTypeDefinition), .val (.ref t), .val (.ref a_HasTypeDefinition)] [(.ref t), (.ref a_HasTypeDefinition)])) _
    exact kq)
  by_cases hc261 : a_HasTypeDefinition = t
  · have G262 : Go p e below A0 (s₁.setTop (mkF m 29 #[.val (.ref a_HasTypeDefinition), .val (.ref t), .val (.ref a_HasTypeDefinition)] [(.int (1 : Int32))])) := fun tq kq => G260 tq (by
      refine Jvm.RoadKit.acmp (g := (mkF m 8 #[.val (.ref a_HasTypeDefinition), .val (.ref t), .val (.ref a_HasTypeDefinition)] [(.ref t), (.ref a_HasTypeDefinition)])) X0 hx rfl rfl rfl (pc0 := 8) (pc' := 19) (same := true) rfl (hb hby d3_8) rfl (decide_eq_true (congrArg Value.ref hc261)) (by decide) (by decide) ?_
      show Steps p.tables e below (s₁.setTop (mkF m 19 #[.val (.ref a_HasTypeDefinition), .val (.ref t), .val (.ref a_HasTypeDefinition)] [])) _
      refine XS.aloadN X0.here hx rfl (hb hby d3_19) rfl rfl ?_
      show Steps p.tables e below (s₁.setTop (mkF m 20 #[.val (.ref a_HasTypeDefinition), .val (.ref t), .val (.ref a_HasTypeDefinition)] [(.ref a_HasTypeDefinition)])) _
      refine XS.aloadN X0.here hx rfl (hb hby d3_20) rfl rfl ?_
      show Steps p.tables e below (s₁.setTop (mkF m 21 #[.val (.ref a_HasTypeDefinition), .val (.ref t), .val (.ref a_HasTypeDefinition)] [(.ref t), (.ref a_HasTypeDefinition)])) _
      refine Jvm.RoadKit.acmp (g := (mkF m 21 #[.val (.ref a_HasTypeDefinition), .val (.ref t), .val (.ref a_HasTypeDefinition)] [(.ref t), (.ref a_HasTypeDefinition)])) X0 hx rfl rfl rfl (pc0 := 21) (pc' := 24) (same := true) rfl (hb hby d3_21) rfl (decide_eq_true (congrArg Value.ref hc261)) (by decide) (by decide) ?_
      show Steps p.tables e below (s₁.setTop (mkF m 24 #[.val (.ref a_HasTypeDefinition), .val (.ref t), .val (.ref a_HasTypeDefinition)] [])) _
      refine XS.iconst X0.here hx rfl (hb hby d3_24) ?_
      show Steps p.tables e below (s₁.setTop (mkF m 25 #[.val (.ref a_HasTypeDefinition), .val (.ref t), .val (.ref a_HasTypeDefinition)] [(.int (1 : Int32))])) _
      refine XS.goto X0.here hx rfl (pc0 := 25) (pc' := 29) rfl (hb hby d3_25) (by decide) (by decide) ?_
      show Steps p.tables e below (s₁.setTop (mkF m 29 #[.val (.ref a_HasTypeDefinition), .val (.ref t), .val (.ref a_HasTypeDefinition)] [(.int (1 : Int32))])) _
      exact kq)
    obtain ⟨fs, hr, hrun, hended, hW, hsame⟩ := X0.leave (v := some (.int (nar .boolean (1 : Int32)))) (fun h => by rw [Bd.returns] at h; cases h)
    refine ⟨_, _, (by rw [← hA0]; exact G262 _ (retN X0 hx (t := .boolean) Bd.returns (by simp) (hb hby d3_29) hr)), hrun, hended, _, _, rfl, ?_, ⟨_, rfl⟩, hW, hsame.mono (by decide) (by decide)⟩
    exact ⟨(by rw [show own_b (a_HasTypeDefinition = t ∨ a_NonHierarchicalReferences = t ∨ a_References = t) = (1 : Int32) from by simp [own_b, hc261]]; rfl), N0, e0⟩
  · have G263 : Go p e below A0 (s₁.setTop (mkF m 12 #[.val (.ref a_HasTypeDefinition), .val (.ref t), .val (.ref a_HasTypeDefinition)] [(.ref a_HasTypeDefinition)])) := fun tq kq => G260 tq (by
      refine Jvm.RoadKit.acmp (g := (mkF m 8 #[.val (.ref a_HasTypeDefinition), .val (.ref t), .val (.ref a_HasTypeDefinition)] [(.ref t), (.ref a_HasTypeDefinition)])) X0 hx rfl rfl rfl (pc0 := 8) (pc' := 11) (same := false) rfl (hb hby d3_8) rfl (decide_eq_false fun q => hc261 (Value.ref.inj q)) (by decide) (by decide) ?_
      show Steps p.tables e below (s₁.setTop (mkF m 11 #[.val (.ref a_HasTypeDefinition), .val (.ref t), .val (.ref a_HasTypeDefinition)] [])) _
      refine XS.aloadN X0.here hx rfl (hb hby d3_11) rfl rfl ?_
      show Steps p.tables e below (s₁.setTop (mkF m 12 #[.val (.ref a_HasTypeDefinition), .val (.ref t), .val (.ref a_HasTypeDefinition)] [(.ref a_HasTypeDefinition)])) _
      exact kq)
    obtain ⟨T264, X264, e264, st264⟩ := getF X0 hx hZ hown (host := "") (Or.inl (hw _ (List.mem_of_getElem? (i := 18) rfl))) Via.refl e0 F_a_HasTypeDefinition_supertype (g := (mkF m 12 #[.val (.ref a_HasTypeDefinition), .val (.ref t), .val (.ref a_HasTypeDefinition)] [(.ref a_HasTypeDefinition)])) rfl rfl (hb hby d3_12)
    have G265 : Go p e below A0 (T264.setTop (mkF m 15 #[.val (.ref a_HasTypeDefinition), .val (.ref t), .val (.ref a_HasTypeDefinition)] [(.ref a_NonHierarchicalReferences)])) := fun tq kq => G263 tq (st264 _ kq)
    have G266 : Go p e below A0 (T264.setTop (mkF m 8 #[.val (.ref a_HasTypeDefinition), .val (.ref t), .val (.ref a_NonHierarchicalReferences)] [(.ref t), (.ref a_NonHierarchicalReferences)])) := fun tq kq => G265 tq (by
      refine XS.astoreN X264.here hx rfl (hb hby d3_15) rfl rfl (l' := #[.val (.ref a_HasTypeDefinition), .val (.ref t), .val (.ref a_NonHierarchicalReferences)]) rfl ?_
      show Steps p.tables e below (T264.setTop (mkF m 16 #[.val (.ref a_HasTypeDefinition), .val (.ref t), .val (.ref a_NonHierarchicalReferences)] [])) _
      refine XS.goto X264.here hx rfl (pc0 := 16) (pc' := 2) rfl (hb hby d3_16) (by decide) (by decide) ?_
      show Steps p.tables e below (T264.setTop (mkF m 2 #[.val (.ref a_HasTypeDefinition), .val (.ref t), .val (.ref a_NonHierarchicalReferences)] [])) _
      refine XS.aloadN X264.here hx rfl (hb hby d3_2) rfl rfl ?_
      show Steps p.tables e below (T264.setTop (mkF m 3 #[.val (.ref a_HasTypeDefinition), .val (.ref t), .val (.ref a_NonHierarchicalReferences)] [(.ref a_NonHierarchicalReferences)])) _
      refine XS.ifnullNo X264.here hx rfl (hb hby d3_3) rfl ?_
      show Steps p.tables e below (T264.setTop (mkF m 6 #[.val (.ref a_HasTypeDefinition), .val (.ref t), .val (.ref a_NonHierarchicalReferences)] [])) _
      refine XS.aloadN X264.here hx rfl (hb hby d3_6) rfl rfl ?_
      show Steps p.tables e below (T264.setTop (mkF m 7 #[.val (.ref a_HasTypeDefinition), .val (.ref t), .val (.ref a_NonHierarchicalReferences)] [(.ref a_NonHierarchicalReferences)])) _
      refine XS.aloadN X264.here hx rfl (hb hby d3_7) rfl rfl ?_
      show Steps p.tables e below (T264.setTop (mkF m 8 #[.val (.ref a_HasTypeDefinition), .val (.ref t), .val (.ref a_NonHierarchicalReferences)] [(.ref t), (.ref a_NonHierarchicalReferences)])) _
      exact kq)
    by_cases hc267 : a_NonHierarchicalReferences = t
    · have G268 : Go p e below A0 (T264.setTop (mkF m 29 #[.val (.ref a_HasTypeDefinition), .val (.ref t), .val (.ref a_NonHierarchicalReferences)] [(.int (1 : Int32))])) := fun tq kq => G266 tq (by
        refine Jvm.RoadKit.acmp (g := (mkF m 8 #[.val (.ref a_HasTypeDefinition), .val (.ref t), .val (.ref a_NonHierarchicalReferences)] [(.ref t), (.ref a_NonHierarchicalReferences)])) X264 hx rfl rfl rfl (pc0 := 8) (pc' := 19) (same := true) rfl (hb hby d3_8) rfl (decide_eq_true (congrArg Value.ref hc267)) (by decide) (by decide) ?_
        show Steps p.tables e below (T264.setTop (mkF m 19 #[.val (.ref a_HasTypeDefinition), .val (.ref t), .val (.ref a_NonHierarchicalReferences)] [])) _
        refine XS.aloadN X264.here hx rfl (hb hby d3_19) rfl rfl ?_
        show Steps p.tables e below (T264.setTop (mkF m 20 #[.val (.ref a_HasTypeDefinition), .val (.ref t), .val (.ref a_NonHierarchicalReferences)] [(.ref a_NonHierarchicalReferences)])) _
        refine XS.aloadN X264.here hx rfl (hb hby d3_20) rfl rfl ?_
        show Steps p.tables e below (T264.setTop (mkF m 21 #[.val (.ref a_HasTypeDefinition), .val (.ref t), .val (.ref a_NonHierarchicalReferences)] [(.ref t), (.ref a_NonHierarchicalReferences)])) _
        refine Jvm.RoadKit.acmp (g := (mkF m 21 #[.val (.ref a_HasTypeDefinition), .val (.ref t), .val (.ref a_NonHierarchicalReferences)] [(.ref t), (.ref a_NonHierarchicalReferences)])) X264 hx rfl rfl rfl (pc0 := 21) (pc' := 24) (same := true) rfl (hb hby d3_21) rfl (decide_eq_true (congrArg Value.ref hc267)) (by decide) (by decide) ?_
        show Steps p.tables e below (T264.setTop (mkF m 24 #[.val (.ref a_HasTypeDefinition), .val (.ref t), .val (.ref a_NonHierarchicalReferences)] [])) _
        refine XS.iconst X264.here hx rfl (hb hby d3_24) ?_
        show Steps p.tables e below (T264.setTop (mkF m 25 #[.val (.ref a_HasTypeDefinition), .val (.ref t), .val (.ref a_NonHierarchicalReferences)] [(.int (1 : Int32))])) _
        refine XS.goto X264.here hx rfl (pc0 := 25) (pc' := 29) rfl (hb hby d3_25) (by decide) (by decide) ?_
        show Steps p.tables e below (T264.setTop (mkF m 29 #[.val (.ref a_HasTypeDefinition), .val (.ref t), .val (.ref a_NonHierarchicalReferences)] [(.int (1 : Int32))])) _
        exact kq)
      obtain ⟨fs, hr, hrun, hended, hW, hsame⟩ := X264.leave (v := some (.int (nar .boolean (1 : Int32)))) (fun h => by rw [Bd.returns] at h; cases h)
      refine ⟨_, _, (by rw [← hA0]; exact G268 _ (retN X264 hx (t := .boolean) Bd.returns (by simp) (hb hby d3_29) hr)), hrun, hended, _, _, rfl, ?_, ⟨_, rfl⟩, hW, hsame.mono (by decide) (by decide)⟩
      exact ⟨(by rw [show own_b (a_HasTypeDefinition = t ∨ a_NonHierarchicalReferences = t ∨ a_References = t) = (1 : Int32) from by simp [own_b, hc261, hc267]]; rfl), N0, e264⟩
    · have G269 : Go p e below A0 (T264.setTop (mkF m 12 #[.val (.ref a_HasTypeDefinition), .val (.ref t), .val (.ref a_NonHierarchicalReferences)] [(.ref a_NonHierarchicalReferences)])) := fun tq kq => G266 tq (by
        refine Jvm.RoadKit.acmp (g := (mkF m 8 #[.val (.ref a_HasTypeDefinition), .val (.ref t), .val (.ref a_NonHierarchicalReferences)] [(.ref t), (.ref a_NonHierarchicalReferences)])) X264 hx rfl rfl rfl (pc0 := 8) (pc' := 11) (same := false) rfl (hb hby d3_8) rfl (decide_eq_false fun q => hc267 (Value.ref.inj q)) (by decide) (by decide) ?_
        show Steps p.tables e below (T264.setTop (mkF m 11 #[.val (.ref a_HasTypeDefinition), .val (.ref t), .val (.ref a_NonHierarchicalReferences)] [])) _
        refine XS.aloadN X264.here hx rfl (hb hby d3_11) rfl rfl ?_
        show Steps p.tables e below (T264.setTop (mkF m 12 #[.val (.ref a_HasTypeDefinition), .val (.ref t), .val (.ref a_NonHierarchicalReferences)] [(.ref a_NonHierarchicalReferences)])) _
        exact kq)
      obtain ⟨T270, X270, e270, st270⟩ := getF X264 hx hZ hown (host := "") (Or.inl (hw _ (List.mem_of_getElem? (i := 18) rfl))) Via.refl e264 F_a_NonHierarchicalReferences_supertype (g := (mkF m 12 #[.val (.ref a_HasTypeDefinition), .val (.ref t), .val (.ref a_NonHierarchicalReferences)] [(.ref a_NonHierarchicalReferences)])) rfl rfl (hb hby d3_12)
      have G271 : Go p e below A0 (T270.setTop (mkF m 15 #[.val (.ref a_HasTypeDefinition), .val (.ref t), .val (.ref a_NonHierarchicalReferences)] [(.ref a_References)])) := fun tq kq => G269 tq (st270 _ kq)
      have G272 : Go p e below A0 (T270.setTop (mkF m 8 #[.val (.ref a_HasTypeDefinition), .val (.ref t), .val (.ref a_References)] [(.ref t), (.ref a_References)])) := fun tq kq => G271 tq (by
        refine XS.astoreN X270.here hx rfl (hb hby d3_15) rfl rfl (l' := #[.val (.ref a_HasTypeDefinition), .val (.ref t), .val (.ref a_References)]) rfl ?_
        show Steps p.tables e below (T270.setTop (mkF m 16 #[.val (.ref a_HasTypeDefinition), .val (.ref t), .val (.ref a_References)] [])) _
        refine XS.goto X270.here hx rfl (pc0 := 16) (pc' := 2) rfl (hb hby d3_16) (by decide) (by decide) ?_
        show Steps p.tables e below (T270.setTop (mkF m 2 #[.val (.ref a_HasTypeDefinition), .val (.ref t), .val (.ref a_References)] [])) _
        refine XS.aloadN X270.here hx rfl (hb hby d3_2) rfl rfl ?_
        show Steps p.tables e below (T270.setTop (mkF m 3 #[.val (.ref a_HasTypeDefinition), .val (.ref t), .val (.ref a_References)] [(.ref a_References)])) _
        refine XS.ifnullNo X270.here hx rfl (hb hby d3_3) rfl ?_
        show Steps p.tables e below (T270.setTop (mkF m 6 #[.val (.ref a_HasTypeDefinition), .val (.ref t), .val (.ref a_References)] [])) _
        refine XS.aloadN X270.here hx rfl (hb hby d3_6) rfl rfl ?_
        show Steps p.tables e below (T270.setTop (mkF m 7 #[.val (.ref a_HasTypeDefinition), .val (.ref t), .val (.ref a_References)] [(.ref a_References)])) _
        refine XS.aloadN X270.here hx rfl (hb hby d3_7) rfl rfl ?_
        show Steps p.tables e below (T270.setTop (mkF m 8 #[.val (.ref a_HasTypeDefinition), .val (.ref t), .val (.ref a_References)] [(.ref t), (.ref a_References)])) _
        exact kq)
      by_cases hc273 : a_References = t
      · have G274 : Go p e below A0 (T270.setTop (mkF m 29 #[.val (.ref a_HasTypeDefinition), .val (.ref t), .val (.ref a_References)] [(.int (1 : Int32))])) := fun tq kq => G272 tq (by
          refine Jvm.RoadKit.acmp (g := (mkF m 8 #[.val (.ref a_HasTypeDefinition), .val (.ref t), .val (.ref a_References)] [(.ref t), (.ref a_References)])) X270 hx rfl rfl rfl (pc0 := 8) (pc' := 19) (same := true) rfl (hb hby d3_8) rfl (decide_eq_true (congrArg Value.ref hc273)) (by decide) (by decide) ?_
          show Steps p.tables e below (T270.setTop (mkF m 19 #[.val (.ref a_HasTypeDefinition), .val (.ref t), .val (.ref a_References)] [])) _
          refine XS.aloadN X270.here hx rfl (hb hby d3_19) rfl rfl ?_
          show Steps p.tables e below (T270.setTop (mkF m 20 #[.val (.ref a_HasTypeDefinition), .val (.ref t), .val (.ref a_References)] [(.ref a_References)])) _
          refine XS.aloadN X270.here hx rfl (hb hby d3_20) rfl rfl ?_
          show Steps p.tables e below (T270.setTop (mkF m 21 #[.val (.ref a_HasTypeDefinition), .val (.ref t), .val (.ref a_References)] [(.ref t), (.ref a_References)])) _
          refine Jvm.RoadKit.acmp (g := (mkF m 21 #[.val (.ref a_HasTypeDefinition), .val (.ref t), .val (.ref a_References)] [(.ref t), (.ref a_References)])) X270 hx rfl rfl rfl (pc0 := 21) (pc' := 24) (same := true) rfl (hb hby d3_21) rfl (decide_eq_true (congrArg Value.ref hc273)) (by decide) (by decide) ?_
          show Steps p.tables e below (T270.setTop (mkF m 24 #[.val (.ref a_HasTypeDefinition), .val (.ref t), .val (.ref a_References)] [])) _
          refine XS.iconst X270.here hx rfl (hb hby d3_24) ?_
          show Steps p.tables e below (T270.setTop (mkF m 25 #[.val (.ref a_HasTypeDefinition), .val (.ref t), .val (.ref a_References)] [(.int (1 : Int32))])) _
          refine XS.goto X270.here hx rfl (pc0 := 25) (pc' := 29) rfl (hb hby d3_25) (by decide) (by decide) ?_
          show Steps p.tables e below (T270.setTop (mkF m 29 #[.val (.ref a_HasTypeDefinition), .val (.ref t), .val (.ref a_References)] [(.int (1 : Int32))])) _
          exact kq)
        obtain ⟨fs, hr, hrun, hended, hW, hsame⟩ := X270.leave (v := some (.int (nar .boolean (1 : Int32)))) (fun h => by rw [Bd.returns] at h; cases h)
        refine ⟨_, _, (by rw [← hA0]; exact G274 _ (retN X270 hx (t := .boolean) Bd.returns (by simp) (hb hby d3_29) hr)), hrun, hended, _, _, rfl, ?_, ⟨_, rfl⟩, hW, hsame.mono (by decide) (by decide)⟩
        exact ⟨(by rw [show own_b (a_HasTypeDefinition = t ∨ a_NonHierarchicalReferences = t ∨ a_References = t) = (1 : Int32) from by simp [own_b, hc261, hc267, hc273]]; rfl), N0, e270⟩
      · have G275 : Go p e below A0 (T270.setTop (mkF m 12 #[.val (.ref a_HasTypeDefinition), .val (.ref t), .val (.ref a_References)] [(.ref a_References)])) := fun tq kq => G272 tq (by
          refine Jvm.RoadKit.acmp (g := (mkF m 8 #[.val (.ref a_HasTypeDefinition), .val (.ref t), .val (.ref a_References)] [(.ref t), (.ref a_References)])) X270 hx rfl rfl rfl (pc0 := 8) (pc' := 11) (same := false) rfl (hb hby d3_8) rfl (decide_eq_false fun q => hc273 (Value.ref.inj q)) (by decide) (by decide) ?_
          show Steps p.tables e below (T270.setTop (mkF m 11 #[.val (.ref a_HasTypeDefinition), .val (.ref t), .val (.ref a_References)] [])) _
          refine XS.aloadN X270.here hx rfl (hb hby d3_11) rfl rfl ?_
          show Steps p.tables e below (T270.setTop (mkF m 12 #[.val (.ref a_HasTypeDefinition), .val (.ref t), .val (.ref a_References)] [(.ref a_References)])) _
          exact kq)
        obtain ⟨T276, X276, e276, st276⟩ := getF X270 hx hZ hown (host := "") (Or.inl (hw _ (List.mem_of_getElem? (i := 18) rfl))) Via.refl e270 F_a_References_supertype (g := (mkF m 12 #[.val (.ref a_HasTypeDefinition), .val (.ref t), .val (.ref a_References)] [(.ref a_References)])) rfl rfl (hb hby d3_12)
        have G277 : Go p e below A0 (T276.setTop (mkF m 15 #[.val (.ref a_HasTypeDefinition), .val (.ref t), .val (.ref a_References)] [.null])) := fun tq kq => G275 tq (st276 _ kq)
        have G278 : Go p e below A0 (T276.setTop (mkF m 29 #[.val (.ref a_HasTypeDefinition), .val (.ref t), .val .null] [(.int (0 : Int32))])) := fun tq kq => G277 tq (by
          refine XS.astoreN X276.here hx rfl (hb hby d3_15) rfl rfl (l' := #[.val (.ref a_HasTypeDefinition), .val (.ref t), .val .null]) rfl ?_
          show Steps p.tables e below (T276.setTop (mkF m 16 #[.val (.ref a_HasTypeDefinition), .val (.ref t), .val .null] [])) _
          refine XS.goto X276.here hx rfl (pc0 := 16) (pc' := 2) rfl (hb hby d3_16) (by decide) (by decide) ?_
          show Steps p.tables e below (T276.setTop (mkF m 2 #[.val (.ref a_HasTypeDefinition), .val (.ref t), .val .null] [])) _
          refine XS.aloadN X276.here hx rfl (hb hby d3_2) rfl rfl ?_
          show Steps p.tables e below (T276.setTop (mkF m 3 #[.val (.ref a_HasTypeDefinition), .val (.ref t), .val .null] [.null])) _
          refine XS.ifnullYes X276.here hx rfl (pc0 := 3) (pc' := 19) rfl (hb hby d3_3) rfl (by decide) (by decide) ?_
          show Steps p.tables e below (T276.setTop (mkF m 19 #[.val (.ref a_HasTypeDefinition), .val (.ref t), .val .null] [])) _
          refine XS.aloadN X276.here hx rfl (hb hby d3_19) rfl rfl ?_
          show Steps p.tables e below (T276.setTop (mkF m 20 #[.val (.ref a_HasTypeDefinition), .val (.ref t), .val .null] [.null])) _
          refine XS.aloadN X276.here hx rfl (hb hby d3_20) rfl rfl ?_
          show Steps p.tables e below (T276.setTop (mkF m 21 #[.val (.ref a_HasTypeDefinition), .val (.ref t), .val .null] [(.ref t), .null])) _
          refine Jvm.RoadKit.acmp (g := (mkF m 21 #[.val (.ref a_HasTypeDefinition), .val (.ref t), .val .null] [(.ref t), .null])) X276 hx rfl rfl rfl (pc0 := 21) (pc' := 28) (same := false) rfl (hb hby d3_21) rfl (decide_eq_false nofun) (by decide) (by decide) ?_
          show Steps p.tables e below (T276.setTop (mkF m 28 #[.val (.ref a_HasTypeDefinition), .val (.ref t), .val .null] [])) _
          refine XS.iconst X276.here hx rfl (hb hby d3_28) ?_
          show Steps p.tables e below (T276.setTop (mkF m 29 #[.val (.ref a_HasTypeDefinition), .val (.ref t), .val .null] [(.int (0 : Int32))])) _
          exact kq)
        obtain ⟨fs, hr, hrun, hended, hW, hsame⟩ := X276.leave (v := some (.int (nar .boolean (0 : Int32)))) (fun h => by rw [Bd.returns] at h; cases h)
        refine ⟨_, _, (by rw [← hA0]; exact G278 _ (retN X276 hx (t := .boolean) Bd.returns (by simp) (hb hby d3_29) hr)), hrun, hended, _, _, rfl, ?_, ⟨_, rfl⟩, hW, hsame.mono (by decide) (by decide)⟩
        exact ⟨(by rw [show own_b (a_HasTypeDefinition = t ∨ a_NonHierarchicalReferences = t ∨ a_References = t) = (0 : Int32) from by simp [own_b, hc261, hc267, hc273]]; rfl), N0, e276⟩
def Q0c (n0 : Nat) (v : Option Value) (L : List Loc) : Prop := v = some (.int 1) ∧ Fr n0 L
set_option maxRecDepth 65536 in
set_option maxHeartbeats 40000000 in
theorem rm0 (l : Launch) (Z : State) (a0 : Array Value) (hw : ∀ d ∈ tables_1, d.before a0 Z = true) (ws : List Jvm.Cond) (p0 p1 : Int32) (a_References a_HierarchicalReferences a_HasChild a_Organizes a_Aggregates a_HasSubtype a_HasProperty a_HasComponent a_NonHierarchicalReferences a_HasTypeDefinition : Addr) (h0 : Heap) (n0 : Nat) (Z0 : n0 ≤ h0.size) (S_References : Sta Z h0 "com/example/halyard/halyard/server/ReferenceType" "References" "Lcom/example/halyard/halyard/server/ReferenceType;" (.ref a_References)) (E_a_References : Exa Z h0 a_References "com/example/halyard/halyard/server/ReferenceType") (S_Organizes : Sta Z h0 "com/example/halyard/halyard/server/ReferenceType" "Organizes" "Lcom/example/halyard/halyard/server/ReferenceType;" (.ref a_Organizes)) (E_a_Organizes : Exa Z h0 a_Organizes "com/example/halyard/halyard/server/ReferenceType") (F_a_References_supertype : Fld Z h0 a_References "com/example/halyard/halyard/server/ReferenceType" "supertype" "Lcom/example/halyard/halyard/server/ReferenceType;" .null) (S_Aggregates : Sta Z h0 "com/example/halyard/halyard/server/ReferenceType" "Aggregates" "Lcom/example/halyard/halyard/server/ReferenceType;" (.ref a_Aggregates)) (E_a_Aggregates : Exa Z h0 a_Aggregates "com/example/halyard/halyard/server/ReferenceType") (S_HierarchicalReferences : Sta Z h0 "com/example/halyard/halyard/server/ReferenceType" "HierarchicalReferences" "Lcom/example/halyard/halyard/server/ReferenceType;" (.ref a_HierarchicalReferences)) (E_a_HierarchicalReferences : Exa Z h0 a_HierarchicalReferences "com/example/halyard/halyard/server/ReferenceType") (S_HasChild : Sta Z h0 "com/example/halyard/halyard/server/ReferenceType" "HasChild" "Lcom/example/halyard/halyard/server/ReferenceType;" (.ref a_HasChild)) (E_a_HasChild : Exa Z h0 a_HasChild "com/example/halyard/halyard/server/ReferenceType") (F_a_Aggregates_supertype : Fld Z h0 a_Aggregates "com/example/halyard/halyard/server/ReferenceType" "supertype" "Lcom/example/halyard/halyard/server/ReferenceType;" (.ref a_HasChild)) (F_a_HasChild_supertype : Fld Z h0 a_HasChild "com/example/halyard/halyard/server/ReferenceType" "supertype" "Lcom/example/halyard/halyard/server/ReferenceType;" (.ref a_HierarchicalReferences)) (S_NonHierarchicalReferences : Sta Z h0 "com/example/halyard/halyard/server/ReferenceType" "NonHierarchicalReferences" "Lcom/example/halyard/halyard/server/ReferenceType;" (.ref a_NonHierarchicalReferences)) (E_a_NonHierarchicalReferences : Exa Z h0 a_NonHierarchicalReferences "com/example/halyard/halyard/server/ReferenceType") (F_a_NonHierarchicalReferences_supertype : Fld Z h0 a_NonHierarchicalReferences "com/example/halyard/halyard/server/ReferenceType" "supertype" "Lcom/example/halyard/halyard/server/ReferenceType;" (.ref a_References)) (S_HasProperty : Sta Z h0 "com/example/halyard/halyard/server/ReferenceType" "HasProperty" "Lcom/example/halyard/halyard/server/ReferenceType;" (.ref a_HasProperty)) (E_a_HasProperty : Exa Z h0 a_HasProperty "com/example/halyard/halyard/server/ReferenceType") (F_a_HasProperty_supertype : Fld Z h0 a_HasProperty "com/example/halyard/halyard/server/ReferenceType" "supertype" "Lcom/example/halyard/halyard/server/ReferenceType;" (.ref a_Aggregates)) (F_a_HierarchicalReferences_supertype : Fld Z h0 a_HierarchicalReferences "com/example/halyard/halyard/server/ReferenceType" "supertype" "Lcom/example/halyard/halyard/server/ReferenceType;" (.ref a_References)) (S_HasTypeDefinition : Sta Z h0 "com/example/halyard/halyard/server/ReferenceType" "HasTypeDefinition" "Lcom/example/halyard/halyard/server/ReferenceType;" (.ref a_HasTypeDefinition)) (E_a_HasTypeDefinition : Exa Z h0 a_HasTypeDefinition "com/example/halyard/halyard/server/ReferenceType") (F_a_HasTypeDefinition_supertype : Fld Z h0 a_HasTypeDefinition "com/example/halyard/halyard/server/ReferenceType" "supertype" "Lcom/example/halyard/halyard/server/ReferenceType;" (.ref a_NonHierarchicalReferences)) (S_HasComponent : Sta Z h0 "com/example/halyard/halyard/server/ReferenceType" "HasComponent" "Lcom/example/halyard/halyard/server/ReferenceType;" (.ref a_HasComponent)) (E_a_HasComponent : Exa Z h0 a_HasComponent "com/example/halyard/halyard/server/ReferenceType") (S_HasSubtype : Sta Z h0 "com/example/halyard/halyard/server/ReferenceType" "HasSubtype" "Lcom/example/halyard/halyard/server/ReferenceType;" (.ref a_HasSubtype)) (E_a_HasSubtype : Exa Z h0 a_HasSubtype "com/example/halyard/halyard/server/ReferenceType") (F_a_Organizes_supertype : Fld Z h0 a_Organizes "com/example/halyard/halyard/server/ReferenceType" "supertype" "Lcom/example/halyard/halyard/server/ReferenceType;" (.ref a_HierarchicalReferences)) (F_a_HasSubtype_supertype : Fld Z h0 a_HasSubtype "com/example/halyard/halyard/server/ReferenceType" "supertype" "Lcom/example/halyard/halyard/server/ReferenceType;" (.ref a_HasChild)) (F_a_HasComponent_supertype : Fld Z h0 a_HasComponent "com/example/halyard/halyard/server/ReferenceType" "supertype" "Lcom/example/halyard/halyard/server/ReferenceType;" (.ref a_Aggregates)) (hd : own_Dist a_References a_HierarchicalReferences a_HasChild a_Organizes a_Aggregates a_HasSubtype a_HasProperty a_HasComponent a_NonHierarchicalReferences a_HasTypeDefinition) :
    MetFree l x (head1 (Jvm.Cond.code x code maxLocals ret :: ws) room_1) (fun aa UU => aa = #[(.int p0), (.int p1)] ∧ Z.Warmed39 UU.vm ∧ UU.heap = h0) (fun _ _ _ _ _ => True) (fun _ UU oo U' => ∃ v L, oo = .returned v ∧ Q0c n0 v L ∧ FrameEnd UU oo U' L room_1.cells room_1.slots) := by
  refine MetFree.of_bodySF (plainFor_of_name pn_0) hisR ?_
  intro p e s m args below meth c s₁ Bd hml0 hP hK
  obtain ⟨rfl, hZ, hh⟩ := hP
  have hx := Bd.exec
  have hby := Bd.bytes
  have hml : c.maxLocals = 6 := hml0
  have hown : s.vm.findClass "com/example/halyard/halyard/server/ReferenceTypeIsSubtypeOfPinLaw" = some m.cls := findClass_of_methodNamed Bd.named
  have hnm := (name_of_methodNamed Bd.named Bd.method).1
  have X0 : Stand p l e room_1 s m #[(.int p0), (.int p1)] below meth c s₁ [] 0 0 := Stand.of_body Bd
  have e0 : s₁.heap = h0 := by rw [← hh, Bd.state]; rfl
  have N0 := Fr.nil n0
  obtain ⟨A0, hA0⟩ : ∃ A, A = s₁.setTop (entryFrame m #[(.int p0), (.int p1)] maxLocals) := ⟨_, rfl⟩
  have G0 : Go p e below A0 (s₁.setTop (mkF m 0 #[.val (.int p0), .val (.int p1), .unset, .unset, .unset, .unset] [])) := fun tq kq => by rw [hA0]; exact castTop (ef_rm0 m p0 p1) kq
  have G279 : Go p e below A0 (s₁.setTop (mkF m 17 #[.val (.int p0), .val (.int p1), .val (.int ((p0 &&& (2147483647 : Int32)) % (10 : Int32))), .val (.int ((p1 &&& (2147483647 : Int32)) % (10 : Int32))), .unset, .unset] [(.int ((p0 &&& (2147483647 : Int32)) % (10 : Int32)))])) := fun tq kq => G0 tq (by
    refine XS.iloadN X0.here hx rfl (hb hby at_0) rfl ?_
    show Steps p.tables e below (s₁.setTop (mkF m 1 #[.val (.int p0), .val (.int p1), .unset, .unset, .unset, .unset] [(.int p0)])) _
    refine X0.ldcInt hx hown (mvT hZ (hw _ (List.mem_of_getElem? (i := 0) rfl))) (g := (mkF m 1 #[.val (.int p0), .val (.int p1), .unset, .unset, .unset, .unset] [(.int p0)])) rfl (hb hby at_1) _ ?_
    show Steps p.tables e below (s₁.setTop (mkF m 3 #[.val (.int p0), .val (.int p1), .unset, .unset, .unset, .unset] [(.int (2147483647 : Int32)), (.int p0)])) _
    refine XS.iand X0.here hx rfl (hb hby at_3) rfl ?_
    show Steps p.tables e below (s₁.setTop (mkF m 4 #[.val (.int p0), .val (.int p1), .unset, .unset, .unset, .unset] [(.int (p0 &&& (2147483647 : Int32)))])) _
    refine XS.bipush X0.here hx rfl (hb hby at_4) ?_
    show Steps p.tables e below (s₁.setTop (mkF m 6 #[.val (.int p0), .val (.int p1), .unset, .unset, .unset, .unset] [(.int (10 : Int32)), (.int (p0 &&& (2147483647 : Int32)))])) _
    refine iremM X0 hx rfl (hb hby at_6) rfl (by decide) ?_
    show Steps p.tables e below (s₁.setTop (mkF m 7 #[.val (.int p0), .val (.int p1), .unset, .unset, .unset, .unset] [(.int ((p0 &&& (2147483647 : Int32)) % (10 : Int32)))])) _
    refine XS.istoreN X0.here hx rfl (hb hby at_7) rfl (l' := #[.val (.int p0), .val (.int p1), .val (.int ((p0 &&& (2147483647 : Int32)) % (10 : Int32))), .unset, .unset, .unset]) rfl ?_
    show Steps p.tables e below (s₁.setTop (mkF m 8 #[.val (.int p0), .val (.int p1), .val (.int ((p0 &&& (2147483647 : Int32)) % (10 : Int32))), .unset, .unset, .unset] [])) _
    refine XS.iloadN X0.here hx rfl (hb hby at_8) rfl ?_
    show Steps p.tables e below (s₁.setTop (mkF m 9 #[.val (.int p0), .val (.int p1), .val (.int ((p0 &&& (2147483647 : Int32)) % (10 : Int32))), .unset, .unset, .unset] [(.int p1)])) _
    refine X0.ldcInt hx hown (mvT hZ (hw _ (List.mem_of_getElem? (i := 0) rfl))) (g := (mkF m 9 #[.val (.int p0), .val (.int p1), .val (.int ((p0 &&& (2147483647 : Int32)) % (10 : Int32))), .unset, .unset, .unset] [(.int p1)])) rfl (hb hby at_9) _ ?_
    show Steps p.tables e below (s₁.setTop (mkF m 11 #[.val (.int p0), .val (.int p1), .val (.int ((p0 &&& (2147483647 : Int32)) % (10 : Int32))), .unset, .unset, .unset] [(.int (2147483647 : Int32)), (.int p1)])) _
    refine XS.iand X0.here hx rfl (hb hby at_11) rfl ?_
    show Steps p.tables e below (s₁.setTop (mkF m 12 #[.val (.int p0), .val (.int p1), .val (.int ((p0 &&& (2147483647 : Int32)) % (10 : Int32))), .unset, .unset, .unset] [(.int (p1 &&& (2147483647 : Int32)))])) _
    refine XS.bipush X0.here hx rfl (hb hby at_12) ?_
    show Steps p.tables e below (s₁.setTop (mkF m 14 #[.val (.int p0), .val (.int p1), .val (.int ((p0 &&& (2147483647 : Int32)) % (10 : Int32))), .unset, .unset, .unset] [(.int (10 : Int32)), (.int (p1 &&& (2147483647 : Int32)))])) _
    refine iremM X0 hx rfl (hb hby at_14) rfl (by decide) ?_
    show Steps p.tables e below (s₁.setTop (mkF m 15 #[.val (.int p0), .val (.int p1), .val (.int ((p0 &&& (2147483647 : Int32)) % (10 : Int32))), .unset, .unset, .unset] [(.int ((p1 &&& (2147483647 : Int32)) % (10 : Int32)))])) _
    refine XS.istoreN X0.here hx rfl (hb hby at_15) rfl (l' := #[.val (.int p0), .val (.int p1), .val (.int ((p0 &&& (2147483647 : Int32)) % (10 : Int32))), .val (.int ((p1 &&& (2147483647 : Int32)) % (10 : Int32))), .unset, .unset]) rfl ?_
    show Steps p.tables e below (s₁.setTop (mkF m 16 #[.val (.int p0), .val (.int p1), .val (.int ((p0 &&& (2147483647 : Int32)) % (10 : Int32))), .val (.int ((p1 &&& (2147483647 : Int32)) % (10 : Int32))), .unset, .unset] [])) _
    refine XS.iloadN X0.here hx rfl (hb hby at_16) rfl ?_
    show Steps p.tables e below (s₁.setTop (mkF m 17 #[.val (.int p0), .val (.int p1), .val (.int ((p0 &&& (2147483647 : Int32)) % (10 : Int32))), .val (.int ((p1 &&& (2147483647 : Int32)) % (10 : Int32))), .unset, .unset] [(.int ((p0 &&& (2147483647 : Int32)) % (10 : Int32)))])) _
    exact kq)
  obtain ⟨_, _, ⟨T280, L280, k280, n280⟩, -, X280, ⟨Lc280, hQ280, l280, y280, z280⟩, st280⟩ := Jvm.LawKit.callS X0 hx (y := (⟨"com/example/halyard/halyard/server/ReferenceTypeIsSubtypeOfPinLaw", "ancestors", "(I)I"⟩ : MethodName)) hown (mvT hZ (hw _ (List.mem_of_getElem? (i := 1) rfl))) (mvT hZ (hw _ (List.mem_of_getElem? (i := 2) rfl))) (mvT hZ (hw _ (List.mem_of_getElem? (i := 3) rfl))) (mvT hZ (hw _ (List.mem_of_getElem? (i := 4) rfl))) (by decide) (backOf (W := 0) (rm1 l Z a0 hw [] ((p0 &&& (2147483647 : Int32)) % (10 : Int32)) h0 n0 Z0) hZ (hw _ (List.mem_of_getElem? (i := 4) rfl)) (hw _ (List.mem_of_getElem? (i := 3) rfl)) (by decide) (by decide)) (g := (mkF m 17 #[.val (.int p0), .val (.int p1), .val (.int ((p0 &&& (2147483647 : Int32)) % (10 : Int32))), .val (.int ((p1 &&& (2147483647 : Int32)) % (10 : Int32))), .unset, .unset] [(.int ((p0 &&& (2147483647 : Int32)) % (10 : Int32)))])) rfl (by rw [hml]; rfl) (argsL := [(.int ((p0 &&& (2147483647 : Int32)) % (10 : Int32)))]) (rest := []) (lenOf pd_0 rfl) rfl (by show 2 * 0 + _ ≤ _; exact Nat.le_of_eq rfl) (hb hby at_17) (fun _ _ => ⟨rfl, e0, (by decide : 0 + 0 ≤ _), (by decide : 0 + 0 ≤ _)⟩)
  dsimp only [Pt.U, Pt.locs, Pt.cells, Pt.slots] at X280 l280 y280 z280 st280 hQ280
  subst l280 y280 z280
  obtain ⟨rfl, N280q, e280⟩ := hQ280
  have N280 := Fr.app N0 N280q
  have G281 : Go p e below A0 (T280.setTop (mkF m 20 #[.val (.int p0), .val (.int p1), .val (.int ((p0 &&& (2147483647 : Int32)) % (10 : Int32))), .val (.int ((p1 &&& (2147483647 : Int32)) % (10 : Int32))), .unset, .unset] [(.int (own_anc ((p0 &&& (2147483647 : Int32)) % (10 : Int32))))])) := fun tq kq => G279 tq (st280 _ kq)
  obtain ⟨v32, hG282, G282⟩ : ∃ (v32 : Int32), (v32 = own_b (¬ ((((own_anc ((p0 &&& (2147483647 : Int32)) % (10 : Int32))) >>> (((p1 &&& (2147483647 : Int32)) % (10 : Int32)) &&& 31)) &&& (1 : Int32)) = (0 : Int32)))) ∧ Go p e below A0 (T280.setTop (mkF m 32 #[.val (.int p0), .val (.int p1), .val (.int ((p0 &&& (2147483647 : Int32)) % (10 : Int32))), .val (.int ((p1 &&& (2147483647 : Int32)) % (10 : Int32))), .unset, .unset] [(.int v32)])) := by
    have G283 : Go p e below A0 (T280.setTop (mkF m 24 #[.val (.int p0), .val (.int p1), .val (.int ((p0 &&& (2147483647 : Int32)) % (10 : Int32))), .val (.int ((p1 &&& (2147483647 : Int32)) % (10 : Int32))), .unset, .unset] [(.int (((own_anc ((p0 &&& (2147483647 : Int32)) % (10 : Int32))) >>> (((p1 &&& (2147483647 : Int32)) % (10 : Int32)) &&& 31)) &&& (1 : Int32)))])) := fun tq kq => G281 tq (by
      refine XS.iloadN X280.here hx rfl (hb hby at_20) rfl ?_
      show Steps p.tables e below (T280.setTop (mkF m 21 #[.val (.int p0), .val (.int p1), .val (.int ((p0 &&& (2147483647 : Int32)) % (10 : Int32))), .val (.int ((p1 &&& (2147483647 : Int32)) % (10 : Int32))), .unset, .unset] [(.int ((p1 &&& (2147483647 : Int32)) % (10 : Int32))), (.int (own_anc ((p0 &&& (2147483647 : Int32)) % (10 : Int32))))])) _
      refine XS.ishr X280.here hx rfl (hb hby at_21) rfl ?_
      show Steps p.tables e below (T280.setTop (mkF m 22 #[.val (.int p0), .val (.int p1), .val (.int ((p0 &&& (2147483647 : Int32)) % (10 : Int32))), .val (.int ((p1 &&& (2147483647 : Int32)) % (10 : Int32))), .unset, .unset] [(.int ((own_anc ((p0 &&& (2147483647 : Int32)) % (10 : Int32))) >>> (((p1 &&& (2147483647 : Int32)) % (10 : Int32)) &&& 31)))])) _
      refine XS.iconst X280.here hx rfl (hb hby at_22) ?_
      show Steps p.tables e below (T280.setTop (mkF m 23 #[.val (.int p0), .val (.int p1), .val (.int ((p0 &&& (2147483647 : Int32)) % (10 : Int32))), .val (.int ((p1 &&& (2147483647 : Int32)) % (10 : Int32))), .unset, .unset] [(.int (1 : Int32)), (.int ((own_anc ((p0 &&& (2147483647 : Int32)) % (10 : Int32))) >>> (((p1 &&& (2147483647 : Int32)) % (10 : Int32)) &&& 31)))])) _
      refine XS.iand X280.here hx rfl (hb hby at_23) rfl ?_
      show Steps p.tables e below (T280.setTop (mkF m 24 #[.val (.int p0), .val (.int p1), .val (.int ((p0 &&& (2147483647 : Int32)) % (10 : Int32))), .val (.int ((p1 &&& (2147483647 : Int32)) % (10 : Int32))), .unset, .unset] [(.int (((own_anc ((p0 &&& (2147483647 : Int32)) % (10 : Int32))) >>> (((p1 &&& (2147483647 : Int32)) % (10 : Int32)) &&& 31)) &&& (1 : Int32)))])) _
      exact kq)
    by_cases hc284 : (((own_anc ((p0 &&& (2147483647 : Int32)) % (10 : Int32))) >>> (((p1 &&& (2147483647 : Int32)) % (10 : Int32)) &&& 31)) &&& (1 : Int32)) = (0 : Int32)
    · have G285 : Go p e below A0 (T280.setTop (mkF m 32 #[.val (.int p0), .val (.int p1), .val (.int ((p0 &&& (2147483647 : Int32)) % (10 : Int32))), .val (.int ((p1 &&& (2147483647 : Int32)) % (10 : Int32))), .unset, .unset] [(.int (0 : Int32))])) := fun tq kq => G283 tq (by
        refine XS.ifYes X280.here hx rfl (pc0 := 24) (pc' := 31) rfl (hb hby at_24) rfl ((if0 _ _).trans (teq hc284).1) (by decide) (by decide) ?_
        show Steps p.tables e below (T280.setTop (mkF m 31 #[.val (.int p0), .val (.int p1), .val (.int ((p0 &&& (2147483647 : Int32)) % (10 : Int32))), .val (.int ((p1 &&& (2147483647 : Int32)) % (10 : Int32))), .unset, .unset] [])) _
        refine XS.iconst X280.here hx rfl (hb hby at_31) ?_
        show Steps p.tables e below (T280.setTop (mkF m 32 #[.val (.int p0), .val (.int p1), .val (.int ((p0 &&& (2147483647 : Int32)) % (10 : Int32))), .val (.int ((p1 &&& (2147483647 : Int32)) % (10 : Int32))), .unset, .unset] [(.int (0 : Int32))])) _
        exact kq)
      exact ⟨(0 : Int32), (by simp only [own_b, hc284, not_true_eq_false, not_false_eq_true, if_true, if_false]), G285⟩
    · have G286 : Go p e below A0 (T280.setTop (mkF m 32 #[.val (.int p0), .val (.int p1), .val (.int ((p0 &&& (2147483647 : Int32)) % (10 : Int32))), .val (.int ((p1 &&& (2147483647 : Int32)) % (10 : Int32))), .unset, .unset] [(.int (1 : Int32))])) := fun tq kq => G283 tq (by
        refine XS.ifNo X280.here hx rfl (hb hby at_24) rfl ((if0 _ _).trans (feq hc284).1) ?_
        show Steps p.tables e below (T280.setTop (mkF m 27 #[.val (.int p0), .val (.int p1), .val (.int ((p0 &&& (2147483647 : Int32)) % (10 : Int32))), .val (.int ((p1 &&& (2147483647 : Int32)) % (10 : Int32))), .unset, .unset] [])) _
        refine XS.iconst X280.here hx rfl (hb hby at_27) ?_
        show Steps p.tables e below (T280.setTop (mkF m 28 #[.val (.int p0), .val (.int p1), .val (.int ((p0 &&& (2147483647 : Int32)) % (10 : Int32))), .val (.int ((p1 &&& (2147483647 : Int32)) % (10 : Int32))), .unset, .unset] [(.int (1 : Int32))])) _
        refine XS.goto X280.here hx rfl (pc0 := 28) (pc' := 32) rfl (hb hby at_28) (by decide) (by decide) ?_
        show Steps p.tables e below (T280.setTop (mkF m 32 #[.val (.int p0), .val (.int p1), .val (.int ((p0 &&& (2147483647 : Int32)) % (10 : Int32))), .val (.int ((p1 &&& (2147483647 : Int32)) % (10 : Int32))), .unset, .unset] [(.int (1 : Int32))])) _
        exact kq)
      exact ⟨(1 : Int32), (by simp only [own_b, hc284, not_true_eq_false, not_false_eq_true, if_true, if_false]), G286⟩
  subst hG282
  have G287 : Go p e below A0 (T280.setTop (mkF m 35 #[.val (.int p0), .val (.int p1), .val (.int ((p0 &&& (2147483647 : Int32)) % (10 : Int32))), .val (.int ((p1 &&& (2147483647 : Int32)) % (10 : Int32))), .val (.int (own_b (¬ ((((own_anc ((p0 &&& (2147483647 : Int32)) % (10 : Int32))) >>> (((p1 &&& (2147483647 : Int32)) % (10 : Int32)) &&& 31)) &&& (1 : Int32)) = (0 : Int32))))), .unset] [(.int ((p0 &&& (2147483647 : Int32)) % (10 : Int32)))])) := fun tq kq => G282 tq (by
    refine XS.istore X280.here hx rfl (hb hby at_32) rfl (l' := #[.val (.int p0), .val (.int p1), .val (.int ((p0 &&& (2147483647 : Int32)) % (10 : Int32))), .val (.int ((p1 &&& (2147483647 : Int32)) % (10 : Int32))), .val (.int (own_b (¬ ((((own_anc ((p0 &&& (2147483647 : Int32)) % (10 : Int32))) >>> (((p1 &&& (2147483647 : Int32)) % (10 : Int32)) &&& 31)) &&& (1 : Int32)) = (0 : Int32))))), .unset]) rfl ?_
    show Steps p.tables e below (T280.setTop (mkF m 34 #[.val (.int p0), .val (.int p1), .val (.int ((p0 &&& (2147483647 : Int32)) % (10 : Int32))), .val (.int ((p1 &&& (2147483647 : Int32)) % (10 : Int32))), .val (.int (own_b (¬ ((((own_anc ((p0 &&& (2147483647 : Int32)) % (10 : Int32))) >>> (((p1 &&& (2147483647 : Int32)) % (10 : Int32)) &&& 31)) &&& (1 : Int32)) = (0 : Int32))))), .unset] [])) _
    refine XS.iloadN X280.here hx rfl (hb hby at_34) rfl ?_
    show Steps p.tables e below (T280.setTop (mkF m 35 #[.val (.int p0), .val (.int p1), .val (.int ((p0 &&& (2147483647 : Int32)) % (10 : Int32))), .val (.int ((p1 &&& (2147483647 : Int32)) % (10 : Int32))), .val (.int (own_b (¬ ((((own_anc ((p0 &&& (2147483647 : Int32)) % (10 : Int32))) >>> (((p1 &&& (2147483647 : Int32)) % (10 : Int32)) &&& 31)) &&& (1 : Int32)) = (0 : Int32))))), .unset] [(.int ((p0 &&& (2147483647 : Int32)) % (10 : Int32)))])) _
    exact kq)
  obtain ⟨_, _, ⟨T288, L288, k288, n288⟩, -, X288, ⟨Lc288, hQ288, l288, y288, z288⟩, st288⟩ := Jvm.LawKit.callS X280 hx (y := (⟨"com/example/halyard/halyard/server/ReferenceTypeIsSubtypeOfPinLaw", "pick", "(I)Lcom/example/halyard/halyard/server/ReferenceType;"⟩ : MethodName)) hown (mvT hZ (hw _ (List.mem_of_getElem? (i := 5) rfl))) (mvT hZ (hw _ (List.mem_of_getElem? (i := 6) rfl))) (mvT hZ (hw _ (List.mem_of_getElem? (i := 3) rfl))) (mvT hZ (hw _ (List.mem_of_getElem? (i := 7) rfl))) (by decide) (backOf (W := 0) (rm2 l Z a0 hw [] ((p0 &&& (2147483647 : Int32)) % (10 : Int32)) a_References a_HierarchicalReferences a_HasChild a_Organizes a_Aggregates a_HasSubtype a_HasProperty a_HasComponent a_NonHierarchicalReferences a_HasTypeDefinition h0 n0 Z0 S_References S_HierarchicalReferences S_HasChild S_Organizes S_Aggregates S_HasSubtype S_HasProperty S_HasComponent S_NonHierarchicalReferences S_HasTypeDefinition) hZ (hw _ (List.mem_of_getElem? (i := 7) rfl)) (hw _ (List.mem_of_getElem? (i := 3) rfl)) (by decide) (by decide)) (g := (mkF m 35 #[.val (.int p0), .val (.int p1), .val (.int ((p0 &&& (2147483647 : Int32)) % (10 : Int32))), .val (.int ((p1 &&& (2147483647 : Int32)) % (10 : Int32))), .val (.int (own_b (¬ ((((own_anc ((p0 &&& (2147483647 : Int32)) % (10 : Int32))) >>> (((p1 &&& (2147483647 : Int32)) % (10 : Int32)) &&& 31)) &&& (1 : Int32)) = (0 : Int32))))), .unset] [(.int ((p0 &&& (2147483647 : Int32)) % (10 : Int32)))])) rfl (by rw [hml]; rfl) (argsL := [(.int ((p0 &&& (2147483647 : Int32)) % (10 : Int32)))]) (rest := []) (lenOf pd_1 rfl) rfl (by show 2 * 0 + _ ≤ _; exact Nat.le_of_eq rfl) (hb hby at_35) (fun _ _ => ⟨rfl, e280, (by decide : 0 + 0 ≤ _), (by decide : 0 + 0 ≤ _)⟩)
  dsimp only [Pt.U, Pt.locs, Pt.cells, Pt.slots] at X288 l288 y288 z288 st288 hQ288
  subst l288 y288 z288
  obtain ⟨rfl, N288q, e288⟩ := hQ288
  have N288 := Fr.app N280 N288q
  have G289 : Go p e below A0 (T288.setTop (mkF m 38 #[.val (.int p0), .val (.int p1), .val (.int ((p0 &&& (2147483647 : Int32)) % (10 : Int32))), .val (.int ((p1 &&& (2147483647 : Int32)) % (10 : Int32))), .val (.int (own_b (¬ ((((own_anc ((p0 &&& (2147483647 : Int32)) % (10 : Int32))) >>> (((p1 &&& (2147483647 : Int32)) % (10 : Int32)) &&& 31)) &&& (1 : Int32)) = (0 : Int32))))), .unset] [(.ref (own_pick a_References a_HierarchicalReferences a_HasChild a_Organizes a_Aggregates a_HasSubtype a_HasProperty a_HasComponent a_NonHierarchicalReferences a_HasTypeDefinition ((p0 &&& (2147483647 : Int32)) % (10 : Int32))))])) := fun tq kq => G287 tq (st288 _ kq)
  have G290 : Go p e below A0 (T288.setTop (mkF m 39 #[.val (.int p0), .val (.int p1), .val (.int ((p0 &&& (2147483647 : Int32)) % (10 : Int32))), .val (.int ((p1 &&& (2147483647 : Int32)) % (10 : Int32))), .val (.int (own_b (¬ ((((own_anc ((p0 &&& (2147483647 : Int32)) % (10 : Int32))) >>> (((p1 &&& (2147483647 : Int32)) % (10 : Int32)) &&& 31)) &&& (1 : Int32)) = (0 : Int32))))), .unset] [(.int ((p1 &&& (2147483647 : Int32)) % (10 : Int32))), (.ref (own_pick a_References a_HierarchicalReferences a_HasChild a_Organizes a_Aggregates a_HasSubtype a_HasProperty a_HasComponent a_NonHierarchicalReferences a_HasTypeDefinition ((p0 &&& (2147483647 : Int32)) % (10 : Int32))))])) := fun tq kq => G289 tq (by
    refine XS.iloadN X288.here hx rfl (hb hby at_38) rfl ?_
    show Steps p.tables e below (T288.setTop (mkF m 39 #[.val (.int p0), .val (.int p1), .val (.int ((p0 &&& (2147483647 : Int32)) % (10 : Int32))), .val (.int ((p1 &&& (2147483647 : Int32)) % (10 : Int32))), .val (.int (own_b (¬ ((((own_anc ((p0 &&& (2147483647 : Int32)) % (10 : Int32))) >>> (((p1 &&& (2147483647 : Int32)) % (10 : Int32)) &&& 31)) &&& (1 : Int32)) = (0 : Int32))))), .unset] [(.int ((p1 &&& (2147483647 : Int32)) % (10 : Int32))), (.ref (own_pick a_References a_HierarchicalReferences a_HasChild a_Organizes a_Aggregates a_HasSubtype a_HasProperty a_HasComponent a_NonHierarchicalReferences a_HasTypeDefinition ((p0 &&& (2147483647 : Int32)) % (10 : Int32))))])) _
    exact kq)
  obtain ⟨_, _, ⟨T291, L291, k291, n291⟩, -, X291, ⟨Lc291, hQ291, l291, y291, z291⟩, st291⟩ := Jvm.LawKit.callS X288 hx (y := (⟨"com/example/halyard/halyard/server/ReferenceTypeIsSubtypeOfPinLaw", "pick", "(I)Lcom/example/halyard/halyard/server/ReferenceType;"⟩ : MethodName)) hown (mvT hZ (hw _ (List.mem_of_getElem? (i := 5) rfl))) (mvT hZ (hw _ (List.mem_of_getElem? (i := 6) rfl))) (mvT hZ (hw _ (List.mem_of_getElem? (i := 3) rfl))) (mvT hZ (hw _ (List.mem_of_getElem? (i := 7) rfl))) (by decide) (backOf (W := 1) (rm2 l Z a0 hw [] ((p1 &&& (2147483647 : Int32)) % (10 : Int32)) a_References a_HierarchicalReferences a_HasChild a_Organizes a_Aggregates a_HasSubtype a_HasProperty a_HasComponent a_NonHierarchicalReferences a_HasTypeDefinition h0 n0 Z0 S_References S_HierarchicalReferences S_HasChild S_Organizes S_Aggregates S_HasSubtype S_HasProperty S_HasComponent S_NonHierarchicalReferences S_HasTypeDefinition) hZ (hw _ (List.mem_of_getElem? (i := 7) rfl)) (hw _ (List.mem_of_getElem? (i := 3) rfl)) (by decide) (by decide)) (g := (mkF m 39 #[.val (.int p0), .val (.int p1), .val (.int ((p0 &&& (2147483647 : Int32)) % (10 : Int32))), .val (.int ((p1 &&& (2147483647 : Int32)) % (10 : Int32))), .val (.int (own_b (¬ ((((own_anc ((p0 &&& (2147483647 : Int32)) % (10 : Int32))) >>> (((p1 &&& (2147483647 : Int32)) % (10 : Int32)) &&& 31)) &&& (1 : Int32)) = (0 : Int32))))), .unset] [(.int ((p1 &&& (2147483647 : Int32)) % (10 : Int32))), (.ref (own_pick a_References a_HierarchicalReferences a_HasChild a_Organizes a_Aggregates a_HasSubtype a_HasProperty a_HasComponent a_NonHierarchicalReferences a_HasTypeDefinition ((p0 &&& (2147483647 : Int32)) % (10 : Int32))))])) rfl (by rw [hml]; rfl) (argsL := [(.int ((p1 &&& (2147483647 : Int32)) % (10 : Int32)))]) (rest := [(.ref (own_pick a_References a_HierarchicalReferences a_HasChild a_Organizes a_Aggregates a_HasSubtype a_HasProperty a_HasComponent a_NonHierarchicalReferences a_HasTypeDefinition ((p0 &&& (2147483647 : Int32)) % (10 : Int32))))]) (lenOf pd_1 rfl) rfl (by show 2 * 0 + _ ≤ _; exact Nat.le_of_eq rfl) (hb hby at_39) (fun _ _ => ⟨rfl, e288, (by decide : 0 + 0 ≤ _), (by decide : 0 + 0 ≤ _)⟩)
  dsimp only [Pt.U, Pt.locs, Pt.cells, Pt.slots] at X291 l291 y291 z291 st291 hQ291
  subst l291 y291 z291
  obtain ⟨rfl, N291q, e291⟩ := hQ291
  have N291 := Fr.app N288 N291q
  have G292 : Go p e below A0 (T291.setTop (mkF m 42 #[.val (.int p0), .val (.int p1), .val (.int ((p0 &&& (2147483647 : Int32)) % (10 : Int32))), .val (.int ((p1 &&& (2147483647 : Int32)) % (10 : Int32))), .val (.int (own_b (¬ ((((own_anc ((p0 &&& (2147483647 : Int32)) % (10 : Int32))) >>> (((p1 &&& (2147483647 : Int32)) % (10 : Int32)) &&& 31)) &&& (1 : Int32)) = (0 : Int32))))), .unset] [(.ref (own_pick a_References a_HierarchicalReferences a_HasChild a_Organizes a_Aggregates a_HasSubtype a_HasProperty a_HasComponent a_NonHierarchicalReferences a_HasTypeDefinition ((p1 &&& (2147483647 : Int32)) % (10 : Int32)))), (.ref (own_pick a_References a_HierarchicalReferences a_HasChild a_Organizes a_Aggregates a_HasSubtype a_HasProperty a_HasComponent a_NonHierarchicalReferences a_HasTypeDefinition ((p0 &&& (2147483647 : Int32)) % (10 : Int32))))])) := fun tq kq => G290 tq (st291 _ kq)
  rcases own_ten p0 with hk | hk | hk | hk | hk | hk | hk | hk | hk | hk
  · have G293 : Go p e below A0 (T291.setTop (mkF m 42 #[.val (.int p0), .val (.int p1), .val (.int ((p0 &&& (2147483647 : Int32)) % (10 : Int32))), .val (.int ((p1 &&& (2147483647 : Int32)) % (10 : Int32))), .val (.int (own_b (¬ ((((own_anc ((p0 &&& (2147483647 : Int32)) % (10 : Int32))) >>> (((p1 &&& (2147483647 : Int32)) % (10 : Int32)) &&& 31)) &&& (1 : Int32)) = (0 : Int32))))), .unset] [(.ref (own_pick a_References a_HierarchicalReferences a_HasChild a_Organizes a_Aggregates a_HasSubtype a_HasProperty a_HasComponent a_NonHierarchicalReferences a_HasTypeDefinition ((p1 &&& (2147483647 : Int32)) % (10 : Int32)))), (.ref a_References)])) := by
      have q : own_pick a_References a_HierarchicalReferences a_HasChild a_Organizes a_Aggregates a_HasSubtype a_HasProperty a_HasComponent a_NonHierarchicalReferences a_HasTypeDefinition ((p0 &&& (2147483647 : Int32)) % (10 : Int32)) = a_References := by rw [hk]; rfl
      have q2 := G292
      rw [q] at q2
      exact q2
    have hfin : own_b (a_References = (own_pick a_References a_HierarchicalReferences a_HasChild a_Organizes a_Aggregates a_HasSubtype a_HasProperty a_HasComponent a_NonHierarchicalReferences a_HasTypeDefinition ((p1 &&& (2147483647 : Int32)) % (10 : Int32)))) = own_b (¬ ((((own_anc ((p0 &&& (2147483647 : Int32)) % (10 : Int32))) >>> (((p1 &&& (2147483647 : Int32)) % (10 : Int32)) &&& 31)) &&& (1 : Int32)) = (0 : Int32))) := by
      rw [hk]
      exact own_sub_0 a_References a_HierarchicalReferences a_HasChild a_Organizes a_Aggregates a_HasSubtype a_HasProperty a_HasComponent a_NonHierarchicalReferences a_HasTypeDefinition hd ((p1 &&& (2147483647 : Int32)) % (10 : Int32)) (own_ten p1)
    obtain ⟨cq294, kq294, q294a, q294b, q294c⟩ := isOf hZ e291 E_a_References
    obtain ⟨_, _, ⟨T294, L294, k294, n294⟩, -, X294, ⟨Lc294, hQ294, l294, y294, z294⟩, st294⟩ := X291.virtualBack hx (y := (⟨"com/example/halyard/halyard/server/ReferenceType", "isSubtypeOf", "(Lcom/example/halyard/halyard/server/ReferenceType;)Z"⟩ : MethodName)) (z := (⟨"com/example/halyard/halyard/server/ReferenceType", "isSubtypeOf", "(Lcom/example/halyard/halyard/server/ReferenceType;)Z"⟩ : MethodName)) hown (mvT hZ (hw _ (List.mem_of_getElem? (i := 13) rfl))) (mvT hZ (hw _ (List.mem_of_getElem? (i := 14) rfl))) (notFace_of_selects (args := #[]) (mvT hZ (hw _ (List.mem_of_getElem? (i := 16) rfl)))) (mvT hZ (hw _ (List.mem_of_getElem? (i := 16) rfl))) (mvT hZ (hw _ (List.mem_of_getElem? (i := 15) rfl))) (by decide) (backOf (W := 0) (rm3_0 l Z a0 hw [] a_References (own_pick a_References a_HierarchicalReferences a_HasChild a_Organizes a_Aggregates a_HasSubtype a_HasProperty a_HasComponent a_NonHierarchicalReferences a_HasTypeDefinition ((p1 &&& (2147483647 : Int32)) % (10 : Int32))) h0 n0 Z0 F_a_References_supertype) hZ (hw _ (List.mem_of_getElem? (i := 17) rfl)) (hw _ (List.mem_of_getElem? (i := 9) rfl)) (by decide) (by decide)) q294a q294c (g := (mkF m 42 #[.val (.int p0), .val (.int p1), .val (.int ((p0 &&& (2147483647 : Int32)) % (10 : Int32))), .val (.int ((p1 &&& (2147483647 : Int32)) % (10 : Int32))), .val (.int (own_b (¬ ((((own_anc ((p0 &&& (2147483647 : Int32)) % (10 : Int32))) >>> (((p1 &&& (2147483647 : Int32)) % (10 : Int32)) &&& 31)) &&& (1 : Int32)) = (0 : Int32))))), .unset] [(.ref (own_pick a_References a_HierarchicalReferences a_HasChild a_Organizes a_Aggregates a_HasSubtype a_HasProperty a_HasComponent a_NonHierarchicalReferences a_HasTypeDefinition ((p1 &&& (2147483647 : Int32)) % (10 : Int32)))), (.ref a_References)])) rfl (by rw [hml]; rfl) (Steps.refl _) (argsL := [(.ref (own_pick a_References a_HierarchicalReferences a_HasChild a_Organizes a_Aggregates a_HasSubtype a_HasProperty a_HasComponent a_NonHierarchicalReferences a_HasTypeDefinition ((p1 &&& (2147483647 : Int32)) % (10 : Int32))))]) (rest := []) (lenOf pd_2 rfl) rfl (by show 2 * 0 + _ ≤ _; exact Nat.le_of_eq rfl) (hb hby at_42) (fun _ _ => ⟨rfl, e291, (by decide : 0 + 0 ≤ _), (by decide : 0 + 0 ≤ _)⟩)
    dsimp only [Pt.U, Pt.locs, Pt.cells, Pt.slots] at X294 l294 y294 z294 st294 hQ294
    subst l294 y294 z294
    obtain ⟨rfl, N294q, e294⟩ := hQ294
    have N294 := Fr.app N291 N294q
    have G295 : Go p e below A0 (T294.setTop (mkF m 45 #[.val (.int p0), .val (.int p1), .val (.int ((p0 &&& (2147483647 : Int32)) % (10 : Int32))), .val (.int ((p1 &&& (2147483647 : Int32)) % (10 : Int32))), .val (.int (own_b (¬ ((((own_anc ((p0 &&& (2147483647 : Int32)) % (10 : Int32))) >>> (((p1 &&& (2147483647 : Int32)) % (10 : Int32)) &&& 31)) &&& (1 : Int32)) = (0 : Int32))))), .unset] [(.int (own_b (a_References = (own_pick a_References a_HierarchicalReferences a_HasChild a_Organizes a_Aggregates a_HasSubtype a_HasProperty a_HasComponent a_NonHierarchicalReferences a_HasTypeDefinition ((p1 &&& (2147483647 : Int32)) % (10 : Int32))))))])) := fun tq kq => G293 tq (st294.trans kq)
    have G296 : Go p e below A0 (T294.setTop (mkF m 59 #[.val (.int p0), .val (.int p1), .val (.int ((p0 &&& (2147483647 : Int32)) % (10 : Int32))), .val (.int ((p1 &&& (2147483647 : Int32)) % (10 : Int32))), .val (.int (own_b (¬ ((((own_anc ((p0 &&& (2147483647 : Int32)) % (10 : Int32))) >>> (((p1 &&& (2147483647 : Int32)) % (10 : Int32)) &&& 31)) &&& (1 : Int32)) = (0 : Int32))))), .val (.int (own_b (a_References = (own_pick a_References a_HierarchicalReferences a_HasChild a_Organizes a_Aggregates a_HasSubtype a_HasProperty a_HasComponent a_NonHierarchicalReferences a_HasTypeDefinition ((p1 &&& (2147483647 : Int32)) % (10 : Int32))))))] [(.int (1 : Int32))])) := fun tq kq => G295 tq (by
      refine XS.istore X294.here hx rfl (hb hby at_45) rfl (l' := #[.val (.int p0), .val (.int p1), .val (.int ((p0 &&& (2147483647 : Int32)) % (10 : Int32))), .val (.int ((p1 &&& (2147483647 : Int32)) % (10 : Int32))), .val (.int (own_b (¬ ((((own_anc ((p0 &&& (2147483647 : Int32)) % (10 : Int32))) >>> (((p1 &&& (2147483647 : Int32)) % (10 : Int32)) &&& 31)) &&& (1 : Int32)) = (0 : Int32))))), .val (.int (own_b (a_References = (own_pick a_References a_HierarchicalReferences a_HasChild a_Organizes a_Aggregates a_HasSubtype a_HasProperty a_HasComponent a_NonHierarchicalReferences a_HasTypeDefinition ((p1 &&& (2147483647 : Int32)) % (10 : Int32))))))]) rfl ?_
      show Steps p.tables e below (T294.setTop (mkF m 47 #[.val (.int p0), .val (.int p1), .val (.int ((p0 &&& (2147483647 : Int32)) % (10 : Int32))), .val (.int ((p1 &&& (2147483647 : Int32)) % (10 : Int32))), .val (.int (own_b (¬ ((((own_anc ((p0 &&& (2147483647 : Int32)) % (10 : Int32))) >>> (((p1 &&& (2147483647 : Int32)) % (10 : Int32)) &&& 31)) &&& (1 : Int32)) = (0 : Int32))))), .val (.int (own_b (a_References = (own_pick a_References a_HierarchicalReferences a_HasChild a_Organizes a_Aggregates a_HasSubtype a_HasProperty a_HasComponent a_NonHierarchicalReferences a_HasTypeDefinition ((p1 &&& (2147483647 : Int32)) % (10 : Int32))))))] [])) _
      refine XS.iload X294.here hx rfl (hb hby at_47) rfl ?_
      show Steps p.tables e below (T294.setTop (mkF m 49 #[.val (.int p0), .val (.int p1), .val (.int ((p0 &&& (2147483647 : Int32)) % (10 : Int32))), .val (.int ((p1 &&& (2147483647 : Int32)) % (10 : Int32))), .val (.int (own_b (¬ ((((own_anc ((p0 &&& (2147483647 : Int32)) % (10 : Int32))) >>> (((p1 &&& (2147483647 : Int32)) % (10 : Int32)) &&& 31)) &&& (1 : Int32)) = (0 : Int32))))), .val (.int (own_b (a_References = (own_pick a_References a_HierarchicalReferences a_HasChild a_Organizes a_Aggregates a_HasSubtype a_HasProperty a_HasComponent a_NonHierarchicalReferences a_HasTypeDefinition ((p1 &&& (2147483647 : Int32)) % (10 : Int32))))))] [(.int (own_b (a_References = (own_pick a_References a_HierarchicalReferences a_HasChild a_Organizes a_Aggregates a_HasSubtype a_HasProperty a_HasComponent a_NonHierarchicalReferences a_HasTypeDefinition ((p1 &&& (2147483647 : Int32)) % (10 : Int32))))))])) _
      refine XS.iload X294.here hx rfl (hb hby at_49) rfl ?_
      show Steps p.tables e below (T294.setTop (mkF m 51 #[.val (.int p0), .val (.int p1), .val (.int ((p0 &&& (2147483647 : Int32)) % (10 : Int32))), .val (.int ((p1 &&& (2147483647 : Int32)) % (10 : Int32))), .val (.int (own_b (¬ ((((own_anc ((p0 &&& (2147483647 : Int32)) % (10 : Int32))) >>> (((p1 &&& (2147483647 : Int32)) % (10 : Int32)) &&& 31)) &&& (1 : Int32)) = (0 : Int32))))), .val (.int (own_b (a_References = (own_pick a_References a_HierarchicalReferences a_HasChild a_Organizes a_Aggregates a_HasSubtype a_HasProperty a_HasComponent a_NonHierarchicalReferences a_HasTypeDefinition ((p1 &&& (2147483647 : Int32)) % (10 : Int32))))))] [(.int (own_b (¬ ((((own_anc ((p0 &&& (2147483647 : Int32)) % (10 : Int32))) >>> (((p1 &&& (2147483647 : Int32)) % (10 : Int32)) &&& 31)) &&& (1 : Int32)) = (0 : Int32))))), (.int (own_b (a_References = (own_pick a_References a_HierarchicalReferences a_HasChild a_Organizes a_Aggregates a_HasSubtype a_HasProperty a_HasComponent a_NonHierarchicalReferences a_HasTypeDefinition ((p1 &&& (2147483647 : Int32)) % (10 : Int32))))))])) _
      refine XS.icmpNo X294.here hx rfl (hb hby at_51) rfl (teq hfin).2 ?_
      show Steps p.tables e below (T294.setTop (mkF m 54 #[.val (.int p0), .val (.int p1), .val (.int ((p0 &&& (2147483647 : Int32)) % (10 : Int32))), .val (.int ((p1 &&& (2147483647 : Int32)) % (10 : Int32))), .val (.int (own_b (¬ ((((own_anc ((p0 &&& (2147483647 : Int32)) % (10 : Int32))) >>> (((p1 &&& (2147483647 : Int32)) % (10 : Int32)) &&& 31)) &&& (1 : Int32)) = (0 : Int32))))), .val (.int (own_b (a_References = (own_pick a_References a_HierarchicalReferences a_HasChild a_Organizes a_Aggregates a_HasSubtype a_HasProperty a_HasComponent a_NonHierarchicalReferences a_HasTypeDefinition ((p1 &&& (2147483647 : Int32)) % (10 : Int32))))))] [])) _
      refine XS.iconst X294.here hx rfl (hb hby at_54) ?_
      show Steps p.tables e below (T294.setTop (mkF m 55 #[.val (.int p0), .val (.int p1), .val (.int ((p0 &&& (2147483647 : Int32)) % (10 : Int32))), .val (.int ((p1 &&& (2147483647 : Int32)) % (10 : Int32))), .val (.int (own_b (¬ ((((own_anc ((p0 &&& (2147483647 : Int32)) % (10 : Int32))) >>> (((p1 &&& (2147483647 : Int32)) % (10 : Int32)) &&& 31)) &&& (1 : Int32)) = (0 : Int32))))), .val (.int (own_b (a_References = (own_pick a_References a_HierarchicalReferences a_HasChild a_Organizes a_Aggregates a_HasSubtype a_HasProperty a_HasComponent a_NonHierarchicalReferences a_HasTypeDefinition ((p1 &&& (2147483647 : Int32)) % (10 : Int32))))))] [(.int (1 : Int32))])) _
      refine XS.goto X294.here hx rfl (pc0 := 55) (pc' := 59) rfl (hb hby at_55) (by decide) (by decide) ?_
      show Steps p.tables e below (T294.setTop (mkF m 59 #[.val (.int p0), .val (.int p1), .val (.int ((p0 &&& (2147483647 : Int32)) % (10 : Int32))), .val (.int ((p1 &&& (2147483647 : Int32)) % (10 : Int32))), .val (.int (own_b (¬ ((((own_anc ((p0 &&& (2147483647 : Int32)) % (10 : Int32))) >>> (((p1 &&& (2147483647 : Int32)) % (10 : Int32)) &&& 31)) &&& (1 : Int32)) = (0 : Int32))))), .val (.int (own_b (a_References = (own_pick a_References a_HierarchicalReferences a_HasChild a_Organizes a_Aggregates a_HasSubtype a_HasProperty a_HasComponent a_NonHierarchicalReferences a_HasTypeDefinition ((p1 &&& (2147483647 : Int32)) % (10 : Int32))))))] [(.int (1 : Int32))])) _
      exact kq)
    obtain ⟨fs, hr, hrun, hended, hW, hsame⟩ := X294.leave (v := some (.int (nar .boolean (1 : Int32)))) (fun h => by rw [Bd.returns] at h; cases h)
    refine ⟨_, _, (by rw [← hA0]; exact G296 _ (retN X294 hx (t := .boolean) Bd.returns (by simp) (hb hby at_59) hr)), hrun, hended, _, _, rfl, ?_, ⟨_, rfl⟩, hW, hsame.mono (by decide) (by decide)⟩
    exact ⟨rfl, N294⟩
  · have G297 : Go p e below A0 (T291.setTop (mkF m 42 #[.val (.int p0), .val (.int p1), .val (.int ((p0 &&& (2147483647 : Int32)) % (10 : Int32))), .val (.int ((p1 &&& (2147483647 : Int32)) % (10 : Int32))), .val (.int (own_b (¬ ((((own_anc ((p0 &&& (2147483647 : Int32)) % (10 : Int32))) >>> (((p1 &&& (2147483647 : Int32)) % (10 : Int32)) &&& 31)) &&& (1 : Int32)) = (0 : Int32))))), .unset] [(.ref (own_pick a_References a_HierarchicalReferences a_HasChild a_Organizes a_Aggregates a_HasSubtype a_HasProperty a_HasComponent a_NonHierarchicalReferences a_HasTypeDefinition ((p1 &&& (2147483647 : Int32)) % (10 : Int32)))), (.ref a_HierarchicalReferences)])) := by
      have q : own_pick a_References a_HierarchicalReferences a_HasChild a_Organizes a_Aggregates a_HasSubtype a_HasProperty a_HasComponent a_NonHierarchicalReferences a_HasTypeDefinition ((p0 &&& (2147483647 : Int32)) % (10 : Int32)) = a_HierarchicalReferences := by rw [hk]; rfl
      have q2 := G292
      rw [q] at q2
      exact q2
    have hfin : own_b (a_HierarchicalReferences = (own_pick a_References a_HierarchicalReferences a_HasChild a_Organizes a_Aggregates a_HasSubtype a_HasProperty a_HasComponent a_NonHierarchicalReferences a_HasTypeDefinition ((p1 &&& (2147483647 : Int32)) % (10 : Int32))) ∨ a_References = (own_pick a_References a_HierarchicalReferences a_HasChild a_Organizes a_Aggregates a_HasSubtype a_HasProperty a_HasComponent a_NonHierarchicalReferences a_HasTypeDefinition ((p1 &&& (2147483647 : Int32)) % (10 : Int32)))) = own_b (¬ ((((own_anc ((p0 &&& (2147483647 : Int32)) % (10 : Int32))) >>> (((p1 &&& (2147483647 : Int32)) % (10 : Int32)) &&& 31)) &&& (1 : Int32)) = (0 : Int32))) := by
      rw [hk]
      exact own_sub_1 a_References a_HierarchicalReferences a_HasChild a_Organizes a_Aggregates a_HasSubtype a_HasProperty a_HasComponent a_NonHierarchicalReferences a_HasTypeDefinition hd ((p1 &&& (2147483647 : Int32)) % (10 : Int32)) (own_ten p1)
    obtain ⟨cq298, kq298, q298a, q298b, q298c⟩ := isOf hZ e291 E_a_HierarchicalReferences
    obtain ⟨_, _, ⟨T298, L298, k298, n298⟩, -, X298, ⟨Lc298, hQ298, l298, y298, z298⟩, st298⟩ := X291.virtualBack hx (y := (⟨"com/example/halyard/halyard/server/ReferenceType", "isSubtypeOf", "(Lcom/example/halyard/halyard/server/ReferenceType;)Z"⟩ : MethodName)) (z := (⟨"com/example/halyard/halyard/server/ReferenceType", "isSubtypeOf", "(Lcom/example/halyard/halyard/server/ReferenceType;)Z"⟩ : MethodName)) hown (mvT hZ (hw _ (List.mem_of_getElem? (i := 13) rfl))) (mvT hZ (hw _ (List.mem_of_getElem? (i := 14) rfl))) (notFace_of_selects (args := #[]) (mvT hZ (hw _ (List.mem_of_getElem? (i := 16) rfl)))) (mvT hZ (hw _ (List.mem_of_getElem? (i := 16) rfl))) (mvT hZ (hw _ (List.mem_of_getElem? (i := 15) rfl))) (by decide) (backOf (W := 0) (rm3_1 l Z a0 hw [] a_HierarchicalReferences a_References (own_pick a_References a_HierarchicalReferences a_HasChild a_Organizes a_Aggregates a_HasSubtype a_HasProperty a_HasComponent a_NonHierarchicalReferences a_HasTypeDefinition ((p1 &&& (2147483647 : Int32)) % (10 : Int32))) h0 n0 Z0 F_a_HierarchicalReferences_supertype F_a_References_supertype) hZ (hw _ (List.mem_of_getElem? (i := 17) rfl)) (hw _ (List.mem_of_getElem? (i := 9) rfl)) (by decide) (by decide)) q298a q298c (g := (mkF m 42 #[.val (.int p0), .val (.int p1), .val (.int ((p0 &&& (2147483647 : Int32)) % (10 : Int32))), .val (.int ((p1 &&& (2147483647 : Int32)) % (10 : Int32))), .val (.int (own_b (¬ ((((own_anc ((p0 &&& (2147483647 : Int32)) % (10 : Int32))) >>> (((p1 &&& (2147483647 : Int32)) % (10 : Int32)) &&& 31)) &&& (1 : Int32)) = (0 : Int32))))), .unset] [(.ref (own_pick a_References a_HierarchicalReferences a_HasChild a_Organizes a_Aggregates a_HasSubtype a_HasProperty a_HasComponent a_NonHierarchicalReferences a_HasTypeDefinition ((p1 &&& (2147483647 : Int32)) % (10 : Int32)))), (.ref a_HierarchicalReferences)])) rfl (by rw [hml]; rfl) (Steps.refl _) (argsL := [(.ref (own_pick a_References a_HierarchicalReferences a_HasChild a_Organizes a_Aggregates a_HasSubtype a_HasProperty a_HasComponent a_NonHierarchicalReferences a_HasTypeDefinition ((p1 &&& (2147483647 : Int32)) % (10 : Int32))))]) (rest := []) (lenOf pd_2 rfl) rfl (by show 2 * 0 + _ ≤ _; exact Nat.le_of_eq rfl) (hb hby at_42) (fun _ _ => ⟨rfl, e291, (by decide : 0 + 0 ≤ _), (by decide : 0 + 0 ≤ _)⟩)
    dsimp only [Pt.U, Pt.locs, Pt.cells, Pt.slots] at X298 l298 y298 z298 st298 hQ298
    subst l298 y298 z298
    obtain ⟨rfl, N298q, e298⟩ := hQ298
    have N298 := Fr.app N291 N298q
    have G299 : Go p e below A0 (T298.setTop (mkF m 45 #[.val (.int p0), .val (.int p1), .val (.int ((p0 &&& (2147483647 : Int32)) % (10 : Int32))), .val (.int ((p1 &&& (2147483647 : Int32)) % (10 : Int32))), .val (.int (own_b (¬ ((((own_anc ((p0 &&& (2147483647 : Int32)) % (10 : Int32))) >>> (((p1 &&& (2147483647 : Int32)) % (10 : Int32)) &&& 31)) &&& (1 : Int32)) = (0 : Int32))))), .unset] [(.int (own_b (a_HierarchicalReferences = (own_pick a_References a_HierarchicalReferences a_HasChild a_Organizes a_Aggregates a_HasSubtype a_HasProperty a_HasComponent a_NonHierarchicalReferences a_HasTypeDefinition ((p1 &&& (2147483647 : Int32)) % (10 : Int32))) ∨ a_References = (own_pick a_References a_HierarchicalReferences a_HasChild a_Organizes a_Aggregates a_HasSubtype a_HasProperty a_HasComponent a_NonHierarchicalReferences a_HasTypeDefinition ((p1 &&& (2147483647 : Int32)) % (10 : Int32))))))])) := fun tq kq => G297 tq (st298.trans kq)
    have G300 : Go p e below A0 (T298.setTop (mkF m 59 #[.val (.int p0), .val (.int p1), .val (.int ((p0 &&& (2147483647 : Int32)) % (10 : Int32))), .val (.int ((p1 &&& (2147483647 : Int32)) % (10 : Int32))), .val (.int (own_b (¬ ((((own_anc ((p0 &&& (2147483647 : Int32)) % (10 : Int32))) >>> (((p1 &&& (2147483647 : Int32)) % (10 : Int32)) &&& 31)) &&& (1 : Int32)) = (0 : Int32))))), .val (.int (own_b (a_HierarchicalReferences = (own_pick a_References a_HierarchicalReferences a_HasChild a_Organizes a_Aggregates a_HasSubtype a_HasProperty a_HasComponent a_NonHierarchicalReferences a_HasTypeDefinition ((p1 &&& (2147483647 : Int32)) % (10 : Int32))) ∨ a_References = (own_pick a_References a_HierarchicalReferences a_HasChild a_Organizes a_Aggregates a_HasSubtype a_HasProperty a_HasComponent a_NonHierarchicalReferences a_HasTypeDefinition ((p1 &&& (2147483647 : Int32)) % (10 : Int32))))))] [(.int (1 : Int32))])) := fun tq kq => G299 tq (by
      refine XS.istore X298.here hx rfl (hb hby at_45) rfl (l' := #[.val (.int p0), .val (.int p1), .val (.int ((p0 &&& (2147483647 : Int32)) % (10 : Int32))), .val (.int ((p1 &&& (2147483647 : Int32)) % (10 : Int32))), .val (.int (own_b (¬ ((((own_anc ((p0 &&& (2147483647 : Int32)) % (10 : Int32))) >>> (((p1 &&& (2147483647 : Int32)) % (10 : Int32)) &&& 31)) &&& (1 : Int32)) = (0 : Int32))))), .val (.int (own_b (a_HierarchicalReferences = (own_pick a_References a_HierarchicalReferences a_HasChild a_Organizes a_Aggregates a_HasSubtype a_HasProperty a_HasComponent a_NonHierarchicalReferences a_HasTypeDefinition ((p1 &&& (2147483647 : Int32)) % (10 : Int32))) ∨ a_References = (own_pick a_References a_HierarchicalReferences a_HasChild a_Organizes a_Aggregates a_HasSubtype a_HasProperty a_HasComponent a_NonHierarchicalReferences a_HasTypeDefinition ((p1 &&& (2147483647 : Int32)) % (10 : Int32))))))]) rfl ?_
      show Steps p.tables e below (T298.setTop (mkF m 47 #[.val (.int p0), .val (.int p1), .val (.int ((p0 &&& (2147483647 : Int32)) % (10 : Int32))), .val (.int ((p1 &&& (2147483647 : Int32)) % (10 : Int32))), .val (.int (own_b (¬ ((((own_anc ((p0 &&& (2147483647 : Int32)) % (10 : Int32))) >>> (((p1 &&& (2147483647 : Int32)) % (10 : Int32)) &&& 31)) &&& (1 : Int32)) = (0 : Int32))))), .val (.int (own_b (a_HierarchicalReferences = (own_pick a_References a_HierarchicalReferences a_HasChild a_Organizes a_Aggregates a_HasSubtype a_HasProperty a_HasComponent a_NonHierarchicalReferences a_HasTypeDefinition ((p1 &&& (2147483647 : Int32)) % (10 : Int32))) ∨ a_References = (own_pick a_References a_HierarchicalReferences a_HasChild a_Organizes a_Aggregates a_HasSubtype a_HasProperty a_HasComponent a_NonHierarchicalReferences a_HasTypeDefinition ((p1 &&& (2147483647 : Int32)) % (10 : Int32))))))] [])) _
      refine XS.iload X298.here hx rfl (hb hby at_47) rfl ?_
      show Steps p.tables e below (T298.setTop (mkF m 49 #[.val (.int p0), .val (.int p1), .val (.int ((p0 &&& (2147483647 : Int32)) % (10 : Int32))), .val (.int ((p1 &&& (2147483647 : Int32)) % (10 : Int32))), .val (.int (own_b (¬ ((((own_anc ((p0 &&& (2147483647 : Int32)) % (10 : Int32))) >>> (((p1 &&& (2147483647 : Int32)) % (10 : Int32)) &&& 31)) &&& (1 : Int32)) = (0 : Int32))))), .val (.int (own_b (a_HierarchicalReferences = (own_pick a_References a_HierarchicalReferences a_HasChild a_Organizes a_Aggregates a_HasSubtype a_HasProperty a_HasComponent a_NonHierarchicalReferences a_HasTypeDefinition ((p1 &&& (2147483647 : Int32)) % (10 : Int32))) ∨ a_References = (own_pick a_References a_HierarchicalReferences a_HasChild a_Organizes a_Aggregates a_HasSubtype a_HasProperty a_HasComponent a_NonHierarchicalReferences a_HasTypeDefinition ((p1 &&& (2147483647 : Int32)) % (10 : Int32))))))] [(.int (own_b (a_HierarchicalReferences = (own_pick a_References a_HierarchicalReferences a_HasChild a_Organizes a_Aggregates a_HasSubtype a_HasProperty a_HasComponent a_NonHierarchicalReferences a_HasTypeDefinition ((p1 &&& (2147483647 : Int32)) % (10 : Int32))) ∨ a_References = (own_pick a_References a_HierarchicalReferences a_HasChild a_Organizes a_Aggregates a_HasSubtype a_HasProperty a_HasComponent a_NonHierarchicalReferences a_HasTypeDefinition ((p1 &&& (2147483647 : Int32)) % (10 : Int32))))))])) _
      refine XS.iload X298.here hx rfl (hb hby at_49) rfl ?_
      show Steps p.tables e below (T298.setTop (mkF m 51 #[.val (.int p0), .val (.int p1), .val (.int ((p0 &&& (2147483647 : Int32)) % (10 : Int32))), .val (.int ((p1 &&& (2147483647 : Int32)) % (10 : Int32))), .val (.int (own_b (¬ ((((own_anc ((p0 &&& (2147483647 : Int32)) % (10 : Int32))) >>> (((p1 &&& (2147483647 : Int32)) % (10 : Int32)) &&& 31)) &&& (1 : Int32)) = (0 : Int32))))), .val (.int (own_b (a_HierarchicalReferences = (own_pick a_References a_HierarchicalReferences a_HasChild a_Organizes a_Aggregates a_HasSubtype a_HasProperty a_HasComponent a_NonHierarchicalReferences a_HasTypeDefinition ((p1 &&& (2147483647 : Int32)) % (10 : Int32))) ∨ a_References = (own_pick a_References a_HierarchicalReferences a_HasChild a_Organizes a_Aggregates a_HasSubtype a_HasProperty a_HasComponent a_NonHierarchicalReferences a_HasTypeDefinition ((p1 &&& (2147483647 : Int32)) % (10 : Int32))))))] [(.int (own_b (¬ ((((own_anc ((p0 &&& (2147483647 : Int32)) % (10 : Int32))) >>> (((p1 &&& (2147483647 : Int32)) % (10 : Int32)) &&& 31)) &&& (1 : Int32)) = (0 : Int32))))), (.int (own_b (a_HierarchicalReferences = (own_pick a_References a_HierarchicalReferences a_HasChild a_Organizes a_Aggregates a_HasSubtype a_HasProperty a_HasComponent a_NonHierarchicalReferences a_HasTypeDefinition ((p1 &&& (2147483647 : Int32)) % (10 : Int32))) ∨ a_References = (own_pick a_References a_HierarchicalReferences a_HasChild a_Organizes a_Aggregates a_HasSubtype a_HasProperty a_HasComponent a_NonHierarchicalReferences a_HasTypeDefinition ((p1 &&& (2147483647 : Int32)) % (10 : Int32))))))])) _
      refine XS.icmpNo X298.here hx rfl (hb hby at_51) rfl (teq hfin).2 ?_
      show Steps p.tables e below (T298.setTop (mkF m 54 #[.val (.int p0), .val (.int p1), .val (.int ((p0 &&& (2147483647 : Int32)) % (10 : Int32))), .val (.int ((p1 &&& (2147483647 : Int32)) % (10 : Int32))), .val (.int (own_b (¬ ((((own_anc ((p0 &&& (2147483647 : Int32)) % (10 : Int32))) >>> (((p1 &&& (2147483647 : Int32)) % (10 : Int32)) &&& 31)) &&& (1 : Int32)) = (0 : Int32))))), .val (.int (own_b (a_HierarchicalReferences = (own_pick a_References a_HierarchicalReferences a_HasChild a_Organizes a_Aggregates a_HasSubtype a_HasProperty a_HasComponent a_NonHierarchicalReferences a_HasTypeDefinition ((p1 &&& (2147483647 : Int32)) % (10 : Int32))) ∨ a_References = (own_pick a_References a_HierarchicalReferences a_HasChild a_Organizes a_Aggregates a_HasSubtype a_HasProperty a_HasComponent a_NonHierarchicalReferences a_HasTypeDefinition ((p1 &&& (2147483647 : Int32)) % (10 : Int32))))))] [])) _
      refine XS.iconst X298.here hx rfl (hb hby at_54) ?_
      show Steps p.tables e below (T298.setTop (mkF m 55 #[.val (.int p0), .val (.int p1), .val (.int ((p0 &&& (2147483647 : Int32)) % (10 : Int32))), .val (.int ((p1 &&& (2147483647 : Int32)) % (10 : Int32))), .val (.int (own_b (¬ ((((own_anc ((p0 &&& (2147483647 : Int32)) % (10 : Int32))) >>> (((p1 &&& (2147483647 : Int32)) % (10 : Int32)) &&& 31)) &&& (1 : Int32)) = (0 : Int32))))), .val (.int (own_b (a_HierarchicalReferences = (own_pick a_References a_HierarchicalReferences a_HasChild a_Organizes a_Aggregates a_HasSubtype a_HasProperty a_HasComponent a_NonHierarchicalReferences a_HasTypeDefinition ((p1 &&& (2147483647 : Int32)) % (10 : Int32))) ∨ a_References = (own_pick a_References a_HierarchicalReferences a_HasChild a_Organizes a_Aggregates a_HasSubtype a_HasProperty a_HasComponent a_NonHierarchicalReferences a_HasTypeDefinition ((p1 &&& (2147483647 : Int32)) % (10 : Int32))))))] [(.int (1 : Int32))])) _
      refine XS.goto X298.here hx rfl (pc0 := 55) (pc' := 59) rfl (hb hby at_55) (by decide) (by decide) ?_
      show Steps p.tables e below (T298.setTop (mkF m 59 #[.val (.int p0), .val (.int p1), .val (.int ((p0 &&& (2147483647 : Int32)) % (10 : Int32))), .val (.int ((p1 &&& (2147483647 : Int32)) % (10 : Int32))), .val (.int (own_b (¬ ((((own_anc ((p0 &&& (2147483647 : Int32)) % (10 : Int32))) >>> (((p1 &&& (2147483647 : Int32)) % (10 : Int32)) &&& 31)) &&& (1 : Int32)) = (0 : Int32))))), .val (.int (own_b (a_HierarchicalReferences = (own_pick a_References a_HierarchicalReferences a_HasChild a_Organizes a_Aggregates a_HasSubtype a_HasProperty a_HasComponent a_NonHierarchicalReferences a_HasTypeDefinition ((p1 &&& (2147483647 : Int32)) % (10 : Int32))) ∨ a_References = (own_pick a_References a_HierarchicalReferences a_HasChild a_Organizes a_Aggregates a_HasSubtype a_HasProperty a_HasComponent a_NonHierarchicalReferences a_HasTypeDefinition ((p1 &&& (2147483647 : Int32)) % (10 : Int32))))))] [(.int (1 : Int32))])) _
      exact kq)
    obtain ⟨fs, hr, hrun, hended, hW, hsame⟩ := X298.leave (v := some (.int (nar .boolean (1 : Int32)))) (fun h => by rw [Bd.returns] at h; cases h)
    refine ⟨_, _, (by rw [← hA0]; exact G300 _ (retN X298 hx (t := .boolean) Bd.returns (by simp) (hb hby at_59) hr)), hrun, hended, _, _, rfl, ?_, ⟨_, rfl⟩, hW, hsame.mono (by decide) (by decide)⟩
    exact ⟨rfl, N298⟩
  · have G301 : Go p e below A0 (T291.setTop (mkF m 42 #[.val (.int p0), .val (.int p1), .val (.int ((p0 &&& (2147483647 : Int32)) % (10 : Int32))), .val (.int ((p1 &&& (2147483647 : Int32)) % (10 : Int32))), .val (.int (own_b (¬ ((((own_anc ((p0 &&& (2147483647 : Int32)) % (10 : Int32))) >>> (((p1 &&& (2147483647 : Int32)) % (10 : Int32)) &&& 31)) &&& (1 : Int32)) = (0 : Int32))))), .unset] [(.ref (own_pick a_References a_HierarchicalReferences a_HasChild a_Organizes a_Aggregates a_HasSubtype a_HasProperty a_HasComponent a_NonHierarchicalReferences a_HasTypeDefinition ((p1 &&& (2147483647 : Int32)) % (10 : Int32)))), (.ref a_HasChild)])) := by
      have q : own_pick a_References a_HierarchicalReferences a_HasChild a_Organizes a_Aggregates a_HasSubtype a_HasProperty a_HasComponent a_NonHierarchicalReferences a_HasTypeDefinition ((p0 &&& (2147483647 : Int32)) % (10 : Int32)) = a_HasChild := by rw [hk]; rfl
      have q2 := G292
      rw [q] at q2
      exact q2
    have hfin : own_b (a_HasChild = (own_pick a_References a_HierarchicalReferences a_HasChild a_Organizes a_Aggregates a_HasSubtype a_HasProperty a_HasComponent a_NonHierarchicalReferences a_HasTypeDefinition ((p1 &&& (2147483647 : Int32)) % (10 : Int32))) ∨ a_HierarchicalReferences = (own_pick a_References a_HierarchicalReferences a_HasChild a_Organizes a_Aggregates a_HasSubtype a_HasProperty a_HasComponent a_NonHierarchicalReferences a_HasTypeDefinition ((p1 &&& (2147483647 : Int32)) % (10 : Int32))) ∨ a_References = (own_pick a_References a_HierarchicalReferences a_HasChild a_Organizes a_Aggregates a_HasSubtype a_HasProperty a_HasComponent a_NonHierarchicalReferences a_HasTypeDefinition ((p1 &&& (2147483647 : Int32)) % (10 : Int32)))) = own_b (¬ ((((own_anc ((p0 &&& (2147483647 : Int32)) % (10 : Int32))) >>> (((p1 &&& (2147483647 : Int32)) % (10 : Int32)) &&& 31)) &&& (1 : Int32)) = (0 : Int32))) := by
      rw [hk]
      exact own_sub_2 a_References a_HierarchicalReferences a_HasChild a_Organizes a_Aggregates a_HasSubtype a_HasProperty a_HasComponent a_NonHierarchicalReferences a_HasTypeDefinition hd ((p1 &&& (2147483647 : Int32)) % (10 : Int32)) (own_ten p1)
    obtain ⟨cq302, kq302, q302a, q302b, q302c⟩ := isOf hZ e291 E_a_HasChild
    obtain ⟨_, _, ⟨T302, L302, k302, n302⟩, -, X302, ⟨Lc302, hQ302, l302, y302, z302⟩, st302⟩ := X291.virtualBack hx (y := (⟨"com/example/halyard/halyard/server/ReferenceType", "isSubtypeOf", "(Lcom/example/halyard/halyard/server/ReferenceType;)Z"⟩ : MethodName)) (z := (⟨"com/example/halyard/halyard/server/ReferenceType", "isSubtypeOf", "(Lcom/example/halyard/halyard/server/ReferenceType;)Z"⟩ : MethodName)) hown (mvT hZ (hw _ (List.mem_of_getElem? (i := 13) rfl))) (mvT hZ (hw _ (List.mem_of_getElem? (i := 14) rfl))) (notFace_of_selects (args := #[]) (mvT hZ (hw _ (List.mem_of_getElem? (i := 16) rfl)))) (mvT hZ (hw _ (List.mem_of_getElem? (i := 16) rfl))) (mvT hZ (hw _ (List.mem_of_getElem? (i := 15) rfl))) (by decide) (backOf (W := 0) (rm3_2 l Z a0 hw [] a_HasChild a_HierarchicalReferences a_References (own_pick a_References a_HierarchicalReferences a_HasChild a_Organizes a_Aggregates a_HasSubtype a_HasProperty a_HasComponent a_NonHierarchicalReferences a_HasTypeDefinition ((p1 &&& (2147483647 : Int32)) % (10 : Int32))) h0 n0 Z0 F_a_HasChild_supertype F_a_HierarchicalReferences_supertype F_a_References_supertype) hZ (hw _ (List.mem_of_getElem? (i := 17) rfl)) (hw _ (List.mem_of_getElem? (i := 9) rfl)) (by decide) (by decide)) q302a q302c (g := (mkF m 42 #[.val (.int p0), .val (.int p1), .val (.int ((p0 &&& (2147483647 : Int32)) % (10 : Int32))), .val (.int ((p1 &&& (2147483647 : Int32)) % (10 : Int32))), .val (.int (own_b (¬ ((((own_anc ((p0 &&& (2147483647 : Int32)) % (10 : Int32))) >>> (((p1 &&& (2147483647 : Int32)) % (10 : Int32)) &&& 31)) &&& (1 : Int32)) = (0 : Int32))))), .unset] [(.ref (own_pick a_References a_HierarchicalReferences a_HasChild a_Organizes a_Aggregates a_HasSubtype a_HasProperty a_HasComponent a_NonHierarchicalReferences a_HasTypeDefinition ((p1 &&& (2147483647 : Int32)) % (10 : Int32)))), (.ref a_HasChild)])) rfl (by rw [hml]; rfl) (Steps.refl _) (argsL := [(.ref (own_pick a_References a_HierarchicalReferences a_HasChild a_Organizes a_Aggregates a_HasSubtype a_HasProperty a_HasComponent a_NonHierarchicalReferences a_HasTypeDefinition ((p1 &&& (2147483647 : Int32)) % (10 : Int32))))]) (rest := []) (lenOf pd_2 rfl) rfl (by show 2 * 0 + _ ≤ _; exact Nat.le_of_eq rfl) (hb hby at_42) (fun _ _ => ⟨rfl, e291, (by decide : 0 + 0 ≤ _), (by decide : 0 + 0 ≤ _)⟩)
    dsimp only [Pt.U, Pt.locs, Pt.cells, Pt.slots] at X302 l302 y302 z302 st302 hQ302
    subst l302 y302 z302
    obtain ⟨rfl, N302q, e302⟩ := hQ302
    have N302 := Fr.app N291 N302q
    have G303 : Go p e below A0 (T302.setTop (mkF m 45 #[.val (.int p0), .val (.int p1), .val (.int ((p0 &&& (2147483647 : Int32)) % (10 : Int32))), .val (.int ((p1 &&& (2147483647 : Int32)) % (10 : Int32))), .val (.int (own_b (¬ ((((own_anc ((p0 &&& (2147483647 : Int32)) % (10 : Int32))) >>> (((p1 &&& (2147483647 : Int32)) % (10 : Int32)) &&& 31)) &&& (1 : Int32)) = (0 : Int32))))), .unset] [(.int (own_b (a_HasChild = (own_pick a_References a_HierarchicalReferences a_HasChild a_Organizes a_Aggregates a_HasSubtype a_HasProperty a_HasComponent a_NonHierarchicalReferences a_HasTypeDefinition ((p1 &&& (2147483647 : Int32)) % (10 : Int32))) ∨ a_HierarchicalReferences = (own_pick a_References a_HierarchicalReferences a_HasChild a_Organizes a_Aggregates a_HasSubtype a_HasProperty a_HasComponent a_NonHierarchicalReferences a_HasTypeDefinition ((p1 &&& (2147483647 : Int32)) % (10 : Int32))) ∨ a_References = (own_pick a_References a_HierarchicalReferences a_HasChild a_Organizes a_Aggregates a_HasSubtype a_HasProperty a_HasComponent a_NonHierarchicalReferences a_HasTypeDefinition ((p1 &&& (2147483647 : Int32)) % (10 : Int32))))))])) := fun tq kq => G301 tq (st302.trans kq)
    have G304 : Go p e below A0 (T302.setTop (mkF m 59 #[.val (.int p0), .val (.int p1), .val (.int ((p0 &&& (2147483647 : Int32)) % (10 : Int32))), .val (.int ((p1 &&& (2147483647 : Int32)) % (10 : Int32))), .val (.int (own_b (¬ ((((own_anc ((p0 &&& (2147483647 : Int32)) % (10 : Int32))) >>> (((p1 &&& (2147483647 : Int32)) % (10 : Int32)) &&& 31)) &&& (1 : Int32)) = (0 : Int32))))), .val (.int (own_b (a_HasChild = (own_pick a_References a_HierarchicalReferences a_HasChild a_Organizes a_Aggregates a_HasSubtype a_HasProperty a_HasComponent a_NonHierarchicalReferences a_HasTypeDefinition ((p1 &&& (2147483647 : Int32)) % (10 : Int32))) ∨ a_HierarchicalReferences = (own_pick a_References a_HierarchicalReferences a_HasChild a_Organizes a_Aggregates a_HasSubtype a_HasProperty a_HasComponent a_NonHierarchicalReferences a_HasTypeDefinition ((p1 &&& (2147483647 : Int32)) % (10 : Int32))) ∨ a_References = (own_pick a_References a_HierarchicalReferences a_HasChild a_Organizes a_Aggregates a_HasSubtype a_HasProperty a_HasComponent a_NonHierarchicalReferences a_HasTypeDefinition ((p1 &&& (2147483647 : Int32)) % (10 : Int32))))))] [(.int (1 : Int32))])) := fun tq kq => G303 tq (by
      refine XS.istore X302.here hx rfl (hb hby at_45) rfl (l' := #[.val (.int p0), .val (.int p1), .val (.int ((p0 &&& (2147483647 : Int32)) % (10 : Int32))), .val (.int ((p1 &&& (2147483647 : Int32)) % (10 : Int32))), .val (.int (own_b (¬ ((((own_anc ((p0 &&& (2147483647 : Int32)) % (10 : Int32))) >>> (((p1 &&& (2147483647 : Int32)) % (10 : Int32)) &&& 31)) &&& (1 : Int32)) = (0 : Int32))))), .val (.int (own_b (a_HasChild = (own_pick a_References a_HierarchicalReferences a_HasChild a_Organizes a_Aggregates a_HasSubtype a_HasProperty a_HasComponent a_NonHierarchicalReferences a_HasTypeDefinition ((p1 &&& (2147483647 : Int32)) % (10 : Int32))) ∨ a_HierarchicalReferences = (own_pick a_References a_HierarchicalReferences a_HasChild a_Organizes a_Aggregates a_HasSubtype a_HasProperty a_HasComponent a_NonHierarchicalReferences a_HasTypeDefinition ((p1 &&& (2147483647 : Int32)) % (10 : Int32))) ∨ a_References = (own_pick a_References a_HierarchicalReferences a_HasChild a_Organizes a_Aggregates a_HasSubtype a_HasProperty a_HasComponent a_NonHierarchicalReferences a_HasTypeDefinition ((p1 &&& (2147483647 : Int32)) % (10 : Int32))))))]) rfl ?_
      show Steps p.tables e below (T302.setTop (mkF m 47 #[.val (.int p0), .val (.int p1), .val (.int ((p0 &&& (2147483647 : Int32)) % (10 : Int32))), .val (.int ((p1 &&& (2147483647 : Int32)) % (10 : Int32))), .val (.int (own_b (¬ ((((own_anc ((p0 &&& (2147483647 : Int32)) % (10 : Int32))) >>> (((p1 &&& (2147483647 : Int32)) % (10 : Int32)) &&& 31)) &&& (1 : Int32)) = (0 : Int32))))), .val (.int (own_b (a_HasChild = (own_pick a_References a_HierarchicalReferences a_HasChild a_Organizes a_Aggregates a_HasSubtype a_HasProperty a_HasComponent a_NonHierarchicalReferences a_HasTypeDefinition ((p1 &&& (2147483647 : Int32)) % (10 : Int32))) ∨ a_HierarchicalReferences = (own_pick a_References a_HierarchicalReferences a_HasChild a_Organizes a_Aggregates a_HasSubtype a_HasProperty a_HasComponent a_NonHierarchicalReferences a_HasTypeDefinition ((p1 &&& (2147483647 : Int32)) % (10 : Int32))) ∨ a_References = (own_pick a_References a_HierarchicalReferences a_HasChild a_Organizes a_Aggregates a_HasSubtype a_HasProperty a_HasComponent a_NonHierarchicalReferences a_HasTypeDefinition ((p1 &&& (2147483647 : Int32)) % (10 : Int32))))))] [])) _
      refine XS.iload X302.here hx rfl (hb hby at_47) rfl ?_
      show Steps p.tables e below (T302.setTop (mkF m 49 #[.val (.int p0), .val (.int p1), .val (.int ((p0 &&& (2147483647 : Int32)) % (10 : Int32))), .val (.int ((p1 &&& (2147483647 : Int32)) % (10 : Int32))), .val (.int (own_b (¬ ((((own_anc ((p0 &&& (2147483647 : Int32)) % (10 : Int32))) >>> (((p1 &&& (2147483647 : Int32)) % (10 : Int32)) &&& 31)) &&& (1 : Int32)) = (0 : Int32))))), .val (.int (own_b (a_HasChild = (own_pick a_References a_HierarchicalReferences a_HasChild a_Organizes a_Aggregates a_HasSubtype a_HasProperty a_HasComponent a_NonHierarchicalReferences a_HasTypeDefinition ((p1 &&& (2147483647 : Int32)) % (10 : Int32))) ∨ a_HierarchicalReferences = (own_pick a_References a_HierarchicalReferences a_HasChild a_Organizes a_Aggregates a_HasSubtype a_HasProperty a_HasComponent a_NonHierarchicalReferences a_HasTypeDefinition ((p1 &&& (2147483647 : Int32)) % (10 : Int32))) ∨ a_References = (own_pick a_References a_HierarchicalReferences a_HasChild a_Organizes a_Aggregates a_HasSubtype a_HasProperty a_HasComponent a_NonHierarchicalReferences a_HasTypeDefinition ((p1 &&& (2147483647 : Int32)) % (10 : Int32))))))] [(.int (own_b (a_HasChild = (own_pick a_References a_HierarchicalReferences a_HasChild a_Organizes a_Aggregates a_HasSubtype a_HasProperty a_HasComponent a_NonHierarchicalReferences a_HasTypeDefinition ((p1 &&& (2147483647 : Int32)) % (10 : Int32))) ∨ a_HierarchicalReferences = (own_pick a_References a_HierarchicalReferences a_HasChild a_Organizes a_Aggregates a_HasSubtype a_HasProperty a_HasComponent a_NonHierarchicalReferences a_HasTypeDefinition ((p1 &&& (2147483647 : Int32)) % (10 : Int32))) ∨ a_References = (own_pick a_References a_HierarchicalReferences a_HasChild a_Organizes a_Aggregates a_HasSubtype a_HasProperty a_HasComponent a_NonHierarchicalReferences a_HasTypeDefinition ((p1 &&& (2147483647 : Int32)) % (10 : Int32))))))])) _
      refine XS.iload X302.here hx rfl (hb hby at_49) rfl ?_
      show Steps p.tables e below (T302.setTop (mkF m 51 #[.val (.int p0), .val (.int p1), .val (.int ((p0 &&& (2147483647 : Int32)) % (10 : Int32))), .val (.int ((p1 &&& (2147483647 : Int32)) % (10 : Int32))), .val (.int (own_b (¬ ((((own_anc ((p0 &&& (2147483647 : Int32)) % (10 : Int32))) >>> (((p1 &&& (2147483647 : Int32)) % (10 : Int32)) &&& 31)) &&& (1 : Int32)) = (0 : Int32))))), .val (.int (own_b (a_HasChild = (own_pick a_References a_HierarchicalReferences a_HasChild a_Organizes a_Aggregates a_HasSubtype a_HasProperty a_HasComponent a_NonHierarchicalReferences a_HasTypeDefinition ((p1 &&& (2147483647 : Int32)) % (10 : Int32))) ∨ a_HierarchicalReferences = (own_pick a_References a_HierarchicalReferences a_HasChild a_Organizes a_Aggregates a_HasSubtype a_HasProperty a_HasComponent a_NonHierarchicalReferences a_HasTypeDefinition ((p1 &&& (2147483647 : Int32)) % (10 : Int32))) ∨ a_References = (own_pick a_References a_HierarchicalReferences a_HasChild a_Organizes a_Aggregates a_HasSubtype a_HasProperty a_HasComponent a_NonHierarchicalReferences a_HasTypeDefinition ((p1 &&& (2147483647 : Int32)) % (10 : Int32))))))] [(.int (own_b (¬ ((((own_anc ((p0 &&& (2147483647 : Int32)) % (10 : Int32))) >>> (((p1 &&& (2147483647 : Int32)) % (10 : Int32)) &&& 31)) &&& (1 : Int32)) = (0 : Int32))))), (.int (own_b (a_HasChild = (own_pick a_References a_HierarchicalReferences a_HasChild a_Organizes a_Aggregates a_HasSubtype a_HasProperty a_HasComponent a_NonHierarchicalReferences a_HasTypeDefinition ((p1 &&& (2147483647 : Int32)) % (10 : Int32))) ∨ a_HierarchicalReferences = (own_pick a_References a_HierarchicalReferences a_HasChild a_Organizes a_Aggregates a_HasSubtype a_HasProperty a_HasComponent a_NonHierarchicalReferences a_HasTypeDefinition ((p1 &&& (2147483647 : Int32)) % (10 : Int32))) ∨ a_References = (own_pick a_References a_HierarchicalReferences a_HasChild a_Organizes a_Aggregates a_HasSubtype a_HasProperty a_HasComponent a_NonHierarchicalReferences a_HasTypeDefinition ((p1 &&& (2147483647 : Int32)) % (10 : Int32))))))])) _
      refine XS.icmpNo X302.here hx rfl (hb hby at_51) rfl (teq hfin).2 ?_
      show Steps p.tables e below (T302.setTop (mkF m 54 #[.val (.int p0), .val (.int p1), .val (.int ((p0 &&& (2147483647 : Int32)) % (10 : Int32))), .val (.int ((p1 &&& (2147483647 : Int32)) % (10 : Int32))), .val (.int (own_b (¬ ((((own_anc ((p0 &&& (2147483647 : Int32)) % (10 : Int32))) >>> (((p1 &&& (2147483647 : Int32)) % (10 : Int32)) &&& 31)) &&& (1 : Int32)) = (0 : Int32))))), .val (.int (own_b (a_HasChild = (own_pick a_References a_HierarchicalReferences a_HasChild a_Organizes a_Aggregates a_HasSubtype a_HasProperty a_HasComponent a_NonHierarchicalReferences a_HasTypeDefinition ((p1 &&& (2147483647 : Int32)) % (10 : Int32))) ∨ a_HierarchicalReferences = (own_pick a_References a_HierarchicalReferences a_HasChild a_Organizes a_Aggregates a_HasSubtype a_HasProperty a_HasComponent a_NonHierarchicalReferences a_HasTypeDefinition ((p1 &&& (2147483647 : Int32)) % (10 : Int32))) ∨ a_References = (own_pick a_References a_HierarchicalReferences a_HasChild a_Organizes a_Aggregates a_HasSubtype a_HasProperty a_HasComponent a_NonHierarchicalReferences a_HasTypeDefinition ((p1 &&& (2147483647 : Int32)) % (10 : Int32))))))] [])) _
      refine XS.iconst X302.here hx rfl (hb hby at_54) ?_
      show Steps p.tables e below (T302.setTop (mkF m 55 #[.val (.int p0), .val (.int p1), .val (.int ((p0 &&& (2147483647 : Int32)) % (10 : Int32))), .val (.int ((p1 &&& (2147483647 : Int32)) % (10 : Int32))), .val (.int (own_b (¬ ((((own_anc ((p0 &&& (2147483647 : Int32)) % (10 : Int32))) >>> (((p1 &&& (2147483647 : Int32)) % (10 : Int32)) &&& 31)) &&& (1 : Int32)) = (0 : Int32))))), .val (.int (own_b (a_HasChild = (own_pick a_References a_HierarchicalReferences a_HasChild a_Organizes a_Aggregates a_HasSubtype a_HasProperty a_HasComponent a_NonHierarchicalReferences a_HasTypeDefinition ((p1 &&& (2147483647 : Int32)) % (10 : Int32))) ∨ a_HierarchicalReferences = (own_pick a_References a_HierarchicalReferences a_HasChild a_Organizes a_Aggregates a_HasSubtype a_HasProperty a_HasComponent a_NonHierarchicalReferences a_HasTypeDefinition ((p1 &&& (2147483647 : Int32)) % (10 : Int32))) ∨ a_References = (own_pick a_References a_HierarchicalReferences a_HasChild a_Organizes a_Aggregates a_HasSubtype a_HasProperty a_HasComponent a_NonHierarchicalReferences a_HasTypeDefinition ((p1 &&& (2147483647 : Int32)) % (10 : Int32))))))] [(.int (1 : Int32))])) _
      refine XS.goto X302.here hx rfl (pc0 := 55) (pc' := 59) rfl (hb hby at_55) (by decide) (by decide) ?_
      show Steps p.tables e below (T302.setTop (mkF m 59 #[.val (.int p0), .val (.int p1), .val (.int ((p0 &&& (2147483647 : Int32)) % (10 : Int32))), .val (.int ((p1 &&& (2147483647 : Int32)) % (10 : Int32))), .val (.int (own_b (¬ ((((own_anc ((p0 &&& (2147483647 : Int32)) % (10 : Int32))) >>> (((p1 &&& (2147483647 : Int32)) % (10 : Int32)) &&& 31)) &&& (1 : Int32)) = (0 : Int32))))), .val (.int (own_b (a_HasChild = (own_pick a_References a_HierarchicalReferences a_HasChild a_Organizes a_Aggregates a_HasSubtype a_HasProperty a_HasComponent a_NonHierarchicalReferences a_HasTypeDefinition ((p1 &&& (2147483647 : Int32)) % (10 : Int32))) ∨ a_HierarchicalReferences = (own_pick a_References a_HierarchicalReferences a_HasChild a_Organizes a_Aggregates a_HasSubtype a_HasProperty a_HasComponent a_NonHierarchicalReferences a_HasTypeDefinition ((p1 &&& (2147483647 : Int32)) % (10 : Int32))) ∨ a_References = (own_pick a_References a_HierarchicalReferences a_HasChild a_Organizes a_Aggregates a_HasSubtype a_HasProperty a_HasComponent a_NonHierarchicalReferences a_HasTypeDefinition ((p1 &&& (2147483647 : Int32)) % (10 : Int32))))))] [(.int (1 : Int32))])) _
      exact kq)
    obtain ⟨fs, hr, hrun, hended, hW, hsame⟩ := X302.leave (v := some (.int (nar .boolean (1 : Int32)))) (fun h => by rw [Bd.returns] at h; cases h)
    refine ⟨_, _, (by rw [← hA0]; exact G304 _ (retN X302 hx (t := .boolean) Bd.returns (by simp) (hb hby at_59) hr)), hrun, hended, _, _, rfl, ?_, ⟨_, rfl⟩, hW, hsame.mono (by decide) (by decide)⟩
    exact ⟨rfl, N302⟩
  · have G305 : Go p e below A0 (T291.setTop (mkF m 42 #[.val (.int p0), .val (.int p1), .val (.int ((p0 &&& (2147483647 : Int32)) % (10 : Int32))), .val (.int ((p1 &&& (2147483647 : Int32)) % (10 : Int32))), .val (.int (own_b (¬ ((((own_anc ((p0 &&& (2147483647 : Int32)) % (10 : Int32))) >>> (((p1 &&& (2147483647 : Int32)) % (10 : Int32)) &&& 31)) &&& (1 : Int32)) = (0 : Int32))))), .unset] [(.ref (own_pick a_References a_HierarchicalReferences a_HasChild a_Organizes a_Aggregates a_HasSubtype a_HasProperty a_HasComponent a_NonHierarchicalReferences a_HasTypeDefinition ((p1 &&& (2147483647 : Int32)) % (10 : Int32)))), (.ref a_Organizes)])) := by
      have q : own_pick a_References a_HierarchicalReferences a_HasChild a_Organizes a_Aggregates a_HasSubtype a_HasProperty a_HasComponent a_NonHierarchicalReferences a_HasTypeDefinition ((p0 &&& (2147483647 : Int32)) % (10 : Int32)) = a_Organizes := by rw [hk]; rfl
      have q2 := G292
      rw [q] at q2
      exact q2
    have hfin : own_b (a_Organizes = (own_pick a_References a_HierarchicalReferences a_HasChild a_Organizes a_Aggregates a_HasSubtype a_HasProperty a_HasComponent a_NonHierarchicalReferences a_HasTypeDefinition ((p1 &&& (2147483647 : Int32)) % (10 : Int32))) ∨ a_HierarchicalReferences = (own_pick a_References a_HierarchicalReferences a_HasChild a_Organizes a_Aggregates a_HasSubtype a_HasProperty a_HasComponent a_NonHierarchicalReferences a_HasTypeDefinition ((p1 &&& (2147483647 : Int32)) % (10 : Int32))) ∨ a_References = (own_pick a_References a_HierarchicalReferences a_HasChild a_Organizes a_Aggregates a_HasSubtype a_HasProperty a_HasComponent a_NonHierarchicalReferences a_HasTypeDefinition ((p1 &&& (2147483647 : Int32)) % (10 : Int32)))) = own_b (¬ ((((own_anc ((p0 &&& (2147483647 : Int32)) % (10 : Int32))) >>> (((p1 &&& (2147483647 : Int32)) % (10 : Int32)) &&& 31)) &&& (1 : Int32)) = (0 : Int32))) := by
      rw [hk]
      exact own_sub_3 a_References a_HierarchicalReferences a_HasChild a_Organizes a_Aggregates a_HasSubtype a_HasProperty a_HasComponent a_NonHierarchicalReferences a_HasTypeDefinition hd ((p1 &&& (2147483647 : Int32)) % (10 : Int32)) (own_ten p1)
    obtain ⟨cq306, kq306, q306a, q306b, q306c⟩ := isOf hZ e291 E_a_Organizes
    obtain ⟨_, _, ⟨T306, L306, k306, n306⟩, -, X306, ⟨Lc306, hQ306, l306, y306, z306⟩, st306⟩ := X291.virtualBack hx (y := (⟨"com/example/halyard/halyard/server/ReferenceType", "isSubtypeOf", "(Lcom/example/halyard/halyard/server/ReferenceType;)Z"⟩ : MethodName)) (z := (⟨"com/example/halyard/halyard/server/ReferenceType", "isSubtypeOf", "(Lcom/example/halyard/halyard/server/ReferenceType;)Z"⟩ : MethodName)) hown (mvT hZ (hw _ (List.mem_of_getElem? (i := 13) rfl))) (mvT hZ (hw _ (List.mem_of_getElem? (i := 14) rfl))) (notFace_of_selects (args := #[]) (mvT hZ (hw _ (List.mem_of_getElem? (i := 16) rfl)))) (mvT hZ (hw _ (List.mem_of_getElem? (i := 16) rfl))) (mvT hZ (hw _ (List.mem_of_getElem? (i := 15) rfl))) (by decide) (backOf (W := 0) (rm3_3 l Z a0 hw [] a_Organizes a_HierarchicalReferences a_References (own_pick a_References a_HierarchicalReferences a_HasChild a_Organizes a_Aggregates a_HasSubtype a_HasProperty a_HasComponent a_NonHierarchicalReferences a_HasTypeDefinition ((p1 &&& (2147483647 : Int32)) % (10 : Int32))) h0 n0 Z0 F_a_Organizes_supertype F_a_HierarchicalReferences_supertype F_a_References_supertype) hZ (hw _ (List.mem_of_getElem? (i := 17) rfl)) (hw _ (List.mem_of_getElem? (i := 9) rfl)) (by decide) (by decide)) q306a q306c (g := (mkF m 42 #[.val (.int p0), .val (.int p1), .val (.int ((p0 &&& (2147483647 : Int32)) % (10 : Int32))), .val (.int ((p1 &&& (2147483647 : Int32)) % (10 : Int32))), .val (.int (own_b (¬ ((((own_anc ((p0 &&& (2147483647 : Int32)) % (10 : Int32))) >>> (((p1 &&& (2147483647 : Int32)) % (10 : Int32)) &&& 31)) &&& (1 : Int32)) = (0 : Int32))))), .unset] [(.ref (own_pick a_References a_HierarchicalReferences a_HasChild a_Organizes a_Aggregates a_HasSubtype a_HasProperty a_HasComponent a_NonHierarchicalReferences a_HasTypeDefinition ((p1 &&& (2147483647 : Int32)) % (10 : Int32)))), (.ref a_Organizes)])) rfl (by rw [hml]; rfl) (Steps.refl _) (argsL := [(.ref (own_pick a_References a_HierarchicalReferences a_HasChild a_Organizes a_Aggregates a_HasSubtype a_HasProperty a_HasComponent a_NonHierarchicalReferences a_HasTypeDefinition ((p1 &&& (2147483647 : Int32)) % (10 : Int32))))]) (rest := []) (lenOf pd_2 rfl) rfl (by show 2 * 0 + _ ≤ _; exact Nat.le_of_eq rfl) (hb hby at_42) (fun _ _ => ⟨rfl, e291, (by decide : 0 + 0 ≤ _), (by decide : 0 + 0 ≤ _)⟩)
    dsimp only [Pt.U, Pt.locs, Pt.cells, Pt.slots] at X306 l306 y306 z306 st306 hQ306
    subst l306 y306 z306
    obtain ⟨rfl, N306q, e306⟩ := hQ306
    have N306 := Fr.app N291 N306q
    have G307 : Go p e below A0 (T306.setTop (mkF m 45 #[.val (.int p0), .val (.int p1), .val (.int ((p0 &&& (2147483647 : Int32)) % (10 : Int32))), .val (.int ((p1 &&& (2147483647 : Int32)) % (10 : Int32))), .val (.int (own_b (¬ ((((own_anc ((p0 &&& (2147483647 : Int32)) % (10 : Int32))) >>> (((p1 &&& (2147483647 : Int32)) % (10 : Int32)) &&& 31)) &&& (1 : Int32)) = (0 : Int32))))), .unset] [(.int (own_b (a_Organizes = (own_pick a_References a_HierarchicalReferences a_HasChild a_Organizes a_Aggregates a_HasSubtype a_HasProperty a_HasComponent a_NonHierarchicalReferences a_HasTypeDefinition ((p1 &&& (2147483647 : Int32)) % (10 : Int32))) ∨ a_HierarchicalReferences = (own_pick a_References a_HierarchicalReferences a_HasChild a_Organizes a_Aggregates a_HasSubtype a_HasProperty a_HasComponent a_NonHierarchicalReferences a_HasTypeDefinition ((p1 &&& (2147483647 : Int32)) % (10 : Int32))) ∨ a_References = (own_pick a_References a_HierarchicalReferences a_HasChild a_Organizes a_Aggregates a_HasSubtype a_HasProperty a_HasComponent a_NonHierarchicalReferences a_HasTypeDefinition ((p1 &&& (2147483647 : Int32)) % (10 : Int32))))))])) := fun tq kq => G305 tq (st306.trans kq)
    have G308 : Go p e below A0 (T306.setTop (mkF m 59 #[.val (.int p0), .val (.int p1), .val (.int ((p0 &&& (2147483647 : Int32)) % (10 : Int32))), .val (.int ((p1 &&& (2147483647 : Int32)) % (10 : Int32))), .val (.int (own_b (¬ ((((own_anc ((p0 &&& (2147483647 : Int32)) % (10 : Int32))) >>> (((p1 &&& (2147483647 : Int32)) % (10 : Int32)) &&& 31)) &&& (1 : Int32)) = (0 : Int32))))), .val (.int (own_b (a_Organizes = (own_pick a_References a_HierarchicalReferences a_HasChild a_Organizes a_Aggregates a_HasSubtype a_HasProperty a_HasComponent a_NonHierarchicalReferences a_HasTypeDefinition ((p1 &&& (2147483647 : Int32)) % (10 : Int32))) ∨ a_HierarchicalReferences = (own_pick a_References a_HierarchicalReferences a_HasChild a_Organizes a_Aggregates a_HasSubtype a_HasProperty a_HasComponent a_NonHierarchicalReferences a_HasTypeDefinition ((p1 &&& (2147483647 : Int32)) % (10 : Int32))) ∨ a_References = (own_pick a_References a_HierarchicalReferences a_HasChild a_Organizes a_Aggregates a_HasSubtype a_HasProperty a_HasComponent a_NonHierarchicalReferences a_HasTypeDefinition ((p1 &&& (2147483647 : Int32)) % (10 : Int32))))))] [(.int (1 : Int32))])) := fun tq kq => G307 tq (by
      refine XS.istore X306.here hx rfl (hb hby at_45) rfl (l' := #[.val (.int p0), .val (.int p1), .val (.int ((p0 &&& (2147483647 : Int32)) % (10 : Int32))), .val (.int ((p1 &&& (2147483647 : Int32)) % (10 : Int32))), .val (.int (own_b (¬ ((((own_anc ((p0 &&& (2147483647 : Int32)) % (10 : Int32))) >>> (((p1 &&& (2147483647 : Int32)) % (10 : Int32)) &&& 31)) &&& (1 : Int32)) = (0 : Int32))))), .val (.int (own_b (a_Organizes = (own_pick a_References a_HierarchicalReferences a_HasChild a_Organizes a_Aggregates a_HasSubtype a_HasProperty a_HasComponent a_NonHierarchicalReferences a_HasTypeDefinition ((p1 &&& (2147483647 : Int32)) % (10 : Int32))) ∨ a_HierarchicalReferences = (own_pick a_References a_HierarchicalReferences a_HasChild a_Organizes a_Aggregates a_HasSubtype a_HasProperty a_HasComponent a_NonHierarchicalReferences a_HasTypeDefinition ((p1 &&& (2147483647 : Int32)) % (10 : Int32))) ∨ a_References = (own_pick a_References a_HierarchicalReferences a_HasChild a_Organizes a_Aggregates a_HasSubtype a_HasProperty a_HasComponent a_NonHierarchicalReferences a_HasTypeDefinition ((p1 &&& (2147483647 : Int32)) % (10 : Int32))))))]) rfl ?_
      show Steps p.tables e below (T306.setTop (mkF m 47 #[.val (.int p0), .val (.int p1), .val (.int ((p0 &&& (2147483647 : Int32)) % (10 : Int32))), .val (.int ((p1 &&& (2147483647 : Int32)) % (10 : Int32))), .val (.int (own_b (¬ ((((own_anc ((p0 &&& (2147483647 : Int32)) % (10 : Int32))) >>> (((p1 &&& (2147483647 : Int32)) % (10 : Int32)) &&& 31)) &&& (1 : Int32)) = (0 : Int32))))), .val (.int (own_b (a_Organizes = (own_pick a_References a_HierarchicalReferences a_HasChild a_Organizes a_Aggregates a_HasSubtype a_HasProperty a_HasComponent a_NonHierarchicalReferences a_HasTypeDefinition ((p1 &&& (2147483647 : Int32)) % (10 : Int32))) ∨ a_HierarchicalReferences = (own_pick a_References a_HierarchicalReferences a_HasChild a_Organizes a_Aggregates a_HasSubtype a_HasProperty a_HasComponent a_NonHierarchicalReferences a_HasTypeDefinition ((p1 &&& (2147483647 : Int32)) % (10 : Int32))) ∨ a_References = (own_pick a_References a_HierarchicalReferences a_HasChild a_Organizes a_Aggregates a_HasSubtype a_HasProperty a_HasComponent a_NonHierarchicalReferences a_HasTypeDefinition ((p1 &&& (2147483647 : Int32)) % (10 : Int32))))))] [])) _
      refine XS.iload X306.here hx rfl (hb hby at_47) rfl ?_
      show Steps p.tables e below (T306.setTop (mkF m 49 #[.val (.int p0), .val (.int p1), .val (.int ((p0 &&& (2147483647 : Int32)) % (10 : Int32))), .val (.int ((p1 &&& (2147483647 : Int32)) % (10 : Int32))), .val (.int (own_b (¬ ((((own_anc ((p0 &&& (2147483647 : Int32)) % (10 : Int32))) >>> (((p1 &&& (2147483647 : Int32)) % (10 : Int32)) &&& 31)) &&& (1 : Int32)) = (0 : Int32))))), .val (.int (own_b (a_Organizes = (own_pick a_References a_HierarchicalReferences a_HasChild a_Organizes a_Aggregates a_HasSubtype a_HasProperty a_HasComponent a_NonHierarchicalReferences a_HasTypeDefinition ((p1 &&& (2147483647 : Int32)) % (10 : Int32))) ∨ a_HierarchicalReferences = (own_pick a_References a_HierarchicalReferences a_HasChild a_Organizes a_Aggregates a_HasSubtype a_HasProperty a_HasComponent a_NonHierarchicalReferences a_HasTypeDefinition ((p1 &&& (2147483647 : Int32)) % (10 : Int32))) ∨ a_References = (own_pick a_References a_HierarchicalReferences a_HasChild a_Organizes a_Aggregates a_HasSubtype a_HasProperty a_HasComponent a_NonHierarchicalReferences a_HasTypeDefinition ((p1 &&& (2147483647 : Int32)) % (10 : Int32))))))] [(.int (own_b (a_Organizes = (own_pick a_References a_HierarchicalReferences a_HasChild a_Organizes a_Aggregates a_HasSubtype a_HasProperty a_HasComponent a_NonHierarchicalReferences a_HasTypeDefinition ((p1 &&& (2147483647 : Int32)) % (10 : Int32))) ∨ a_HierarchicalReferences = (own_pick a_References a_HierarchicalReferences a_HasChild a_Organizes a_Aggregates a_HasSubtype a_HasProperty a_HasComponent a_NonHierarchicalReferences a_HasTypeDefinition ((p1 &&& (2147483647 : Int32)) % (10 : Int32))) ∨ a_References = (own_pick a_References a_HierarchicalReferences a_HasChild a_Organizes a_Aggregates a_HasSubtype a_HasProperty a_HasComponent a_NonHierarchicalReferences a_HasTypeDefinition ((p1 &&& (2147483647 : Int32)) % (10 : Int32))))))])) _
      refine XS.iload X306.here hx rfl (hb hby at_49) rfl ?_
      show Steps p.tables e below (T306.setTop (mkF m 51 #[.val (.int p0), .val (.int p1), .val (.int ((p0 &&& (2147483647 : Int32)) % (10 : Int32))), .val (.int ((p1 &&& (2147483647 : Int32)) % (10 : Int32))), .val (.int (own_b (¬ ((((own_anc ((p0 &&& (2147483647 : Int32)) % (10 : Int32))) >>> (((p1 &&& (2147483647 : Int32)) % (10 : Int32)) &&& 31)) &&& (1 : Int32)) = (0 : Int32))))), .val (.int (own_b (a_Organizes = (own_pick a_References a_HierarchicalReferences a_HasChild a_Organizes a_Aggregates a_HasSubtype a_HasProperty a_HasComponent a_NonHierarchicalReferences a_HasTypeDefinition ((p1 &&& (2147483647 : Int32)) % (10 : Int32))) ∨ a_HierarchicalReferences = (own_pick a_References a_HierarchicalReferences a_HasChild a_Organizes a_Aggregates a_HasSubtype a_HasProperty a_HasComponent a_NonHierarchicalReferences a_HasTypeDefinition ((p1 &&& (2147483647 : Int32)) % (10 : Int32))) ∨ a_References = (own_pick a_References a_HierarchicalReferences a_HasChild a_Organizes a_Aggregates a_HasSubtype a_HasProperty a_HasComponent a_NonHierarchicalReferences a_HasTypeDefinition ((p1 &&& (2147483647 : Int32)) % (10 : Int32))))))] [(.int (own_b (¬ ((((own_anc ((p0 &&& (2147483647 : Int32)) % (10 : Int32))) >>> (((p1 &&& (2147483647 : Int32)) % (10 : Int32)) &&& 31)) &&& (1 : Int32)) = (0 : Int32))))), (.int (own_b (a_Organizes = (own_pick a_References a_HierarchicalReferences a_HasChild a_Organizes a_Aggregates a_HasSubtype a_HasProperty a_HasComponent a_NonHierarchicalReferences a_HasTypeDefinition ((p1 &&& (2147483647 : Int32)) % (10 : Int32))) ∨ a_HierarchicalReferences = (own_pick a_References a_HierarchicalReferences a_HasChild a_Organizes a_Aggregates a_HasSubtype a_HasProperty a_HasComponent a_NonHierarchicalReferences a_HasTypeDefinition ((p1 &&& (2147483647 : Int32)) % (10 : Int32))) ∨ a_References = (own_pick a_References a_HierarchicalReferences a_HasChild a_Organizes a_Aggregates a_HasSubtype a_HasProperty a_HasComponent a_NonHierarchicalReferences a_HasTypeDefinition ((p1 &&& (2147483647 : Int32)) % (10 : Int32))))))])) _
      refine XS.icmpNo X306.here hx rfl (hb hby at_51) rfl (teq hfin).2 ?_
      show Steps p.tables e below (T306.setTop (mkF m 54 #[.val (.int p0), .val (.int p1), .val (.int ((p0 &&& (2147483647 : Int32)) % (10 : Int32))), .val (.int ((p1 &&& (2147483647 : Int32)) % (10 : Int32))), .val (.int (own_b (¬ ((((own_anc ((p0 &&& (2147483647 : Int32)) % (10 : Int32))) >>> (((p1 &&& (2147483647 : Int32)) % (10 : Int32)) &&& 31)) &&& (1 : Int32)) = (0 : Int32))))), .val (.int (own_b (a_Organizes = (own_pick a_References a_HierarchicalReferences a_HasChild a_Organizes a_Aggregates a_HasSubtype a_HasProperty a_HasComponent a_NonHierarchicalReferences a_HasTypeDefinition ((p1 &&& (2147483647 : Int32)) % (10 : Int32))) ∨ a_HierarchicalReferences = (own_pick a_References a_HierarchicalReferences a_HasChild a_Organizes a_Aggregates a_HasSubtype a_HasProperty a_HasComponent a_NonHierarchicalReferences a_HasTypeDefinition ((p1 &&& (2147483647 : Int32)) % (10 : Int32))) ∨ a_References = (own_pick a_References a_HierarchicalReferences a_HasChild a_Organizes a_Aggregates a_HasSubtype a_HasProperty a_HasComponent a_NonHierarchicalReferences a_HasTypeDefinition ((p1 &&& (2147483647 : Int32)) % (10 : Int32))))))] [])) _
      refine XS.iconst X306.here hx rfl (hb hby at_54) ?_
      show Steps p.tables e below (T306.setTop (mkF m 55 #[.val (.int p0), .val (.int p1), .val (.int ((p0 &&& (2147483647 : Int32)) % (10 : Int32))), .val (.int ((p1 &&& (2147483647 : Int32)) % (10 : Int32))), .val (.int (own_b (¬ ((((own_anc ((p0 &&& (2147483647 : Int32)) % (10 : Int32))) >>> (((p1 &&& (2147483647 : Int32)) % (10 : Int32)) &&& 31)) &&& (1 : Int32)) = (0 : Int32))))), .val (.int (own_b (a_Organizes = (own_pick a_References a_HierarchicalReferences a_HasChild a_Organizes a_Aggregates a_HasSubtype a_HasProperty a_HasComponent a_NonHierarchicalReferences a_HasTypeDefinition ((p1 &&& (2147483647 : Int32)) % (10 : Int32))) ∨ a_HierarchicalReferences = (own_pick a_References a_HierarchicalReferences a_HasChild a_Organizes a_Aggregates a_HasSubtype a_HasProperty a_HasComponent a_NonHierarchicalReferences a_HasTypeDefinition ((p1 &&& (2147483647 : Int32)) % (10 : Int32))) ∨ a_References = (own_pick a_References a_HierarchicalReferences a_HasChild a_Organizes a_Aggregates a_HasSubtype a_HasProperty a_HasComponent a_NonHierarchicalReferences a_HasTypeDefinition ((p1 &&& (2147483647 : Int32)) % (10 : Int32))))))] [(.int (1 : Int32))])) _
      refine XS.goto X306.here hx rfl (pc0 := 55) (pc' := 59) rfl (hb hby at_55) (by decide) (by decide) ?_
      show Steps p.tables e below (T306.setTop (mkF m 59 #[.val (.int p0), .val (.int p1), .val (.int ((p0 &&& (2147483647 : Int32)) % (10 : Int32))), .val (.int ((p1 &&& (2147483647 : Int32)) % (10 : Int32))), .val (.int (own_b (¬ ((((own_anc ((p0 &&& (2147483647 : Int32)) % (10 : Int32))) >>> (((p1 &&& (2147483647 : Int32)) % (10 : Int32)) &&& 31)) &&& (1 : Int32)) = (0 : Int32))))), .val (.int (own_b (a_Organizes = (own_pick a_References a_HierarchicalReferences a_HasChild a_Organizes a_Aggregates a_HasSubtype a_HasProperty a_HasComponent a_NonHierarchicalReferences a_HasTypeDefinition ((p1 &&& (2147483647 : Int32)) % (10 : Int32))) ∨ a_HierarchicalReferences = (own_pick a_References a_HierarchicalReferences a_HasChild a_Organizes a_Aggregates a_HasSubtype a_HasProperty a_HasComponent a_NonHierarchicalReferences a_HasTypeDefinition ((p1 &&& (2147483647 : Int32)) % (10 : Int32))) ∨ a_References = (own_pick a_References a_HierarchicalReferences a_HasChild a_Organizes a_Aggregates a_HasSubtype a_HasProperty a_HasComponent a_NonHierarchicalReferences a_HasTypeDefinition ((p1 &&& (2147483647 : Int32)) % (10 : Int32))))))] [(.int (1 : Int32))])) _
      exact kq)
    obtain ⟨fs, hr, hrun, hended, hW, hsame⟩ := X306.leave (v := some (.int (nar .boolean (1 : Int32)))) (fun h => by rw [Bd.returns] at h; cases h)
    refine ⟨_, _, (by rw [← hA0]; exact G308 _ (retN X306 hx (t := .boolean) Bd.returns (by simp) (hb hby at_59) hr)), hrun, hended, _, _, rfl, ?_, ⟨_, rfl⟩, hW, hsame.mono (by decide) (by decide)⟩
    exact ⟨rfl, N306⟩
  · have G309 : Go p e below A0 (T291.setTop (mkF m 42 #[.val (.int p0), .val (.int p1), .val (.int ((p0 &&& (2147483647 : Int32)) % (10 : Int32))), .val (.int ((p1 &&& (2147483647 : Int32)) % (10 : Int32))), .val (.int (own_b (¬ ((((own_anc ((p0 &&& (2147483647 : Int32)) % (10 : Int32))) >>> (((p1 &&& (2147483647 : Int32)) % (10 : Int32)) &&& 31)) &&& (1 : Int32)) = (0 : Int32))))), .unset] [(.ref (own_pick a_References a_HierarchicalReferences a_HasChild a_Organizes a_Aggregates a_HasSubtype a_HasProperty a_HasComponent a_NonHierarchicalReferences a_HasTypeDefinition ((p1 &&& (2147483647 : Int32)) % (10 : Int32)))), (.ref a_Aggregates)])) := by
      have q : own_pick a_References a_HierarchicalReferences a_HasChild a_Organizes a_Aggregates a_HasSubtype a_HasProperty a_HasComponent a_NonHierarchicalReferences a_HasTypeDefinition ((p0 &&& (2147483647 : Int32)) % (10 : Int32)) = a_Aggregates := by rw [hk]; rfl
      have q2 := G292
      rw [q] at q2
      exact q2
    have hfin : own_b (a_Aggregates = (own_pick a_References a_HierarchicalReferences a_HasChild a_Organizes a_Aggregates a_HasSubtype a_HasProperty a_HasComponent a_NonHierarchicalReferences a_HasTypeDefinition ((p1 &&& (2147483647 : Int32)) % (10 : Int32))) ∨ a_HasChild = (own_pick a_References a_HierarchicalReferences a_HasChild a_Organizes a_Aggregates a_HasSubtype a_HasProperty a_HasComponent a_NonHierarchicalReferences a_HasTypeDefinition ((p1 &&& (2147483647 : Int32)) % (10 : Int32))) ∨ a_HierarchicalReferences = (own_pick a_References a_HierarchicalReferences a_HasChild a_Organizes a_Aggregates a_HasSubtype a_HasProperty a_HasComponent a_NonHierarchicalReferences a_HasTypeDefinition ((p1 &&& (2147483647 : Int32)) % (10 : Int32))) ∨ a_References = (own_pick a_References a_HierarchicalReferences a_HasChild a_Organizes a_Aggregates a_HasSubtype a_HasProperty a_HasComponent a_NonHierarchicalReferences a_HasTypeDefinition ((p1 &&& (2147483647 : Int32)) % (10 : Int32)))) = own_b (¬ ((((own_anc ((p0 &&& (2147483647 : Int32)) % (10 : Int32))) >>> (((p1 &&& (2147483647 : Int32)) % (10 : Int32)) &&& 31)) &&& (1 : Int32)) = (0 : Int32))) := by
      rw [hk]
      exact own_sub_4 a_References a_HierarchicalReferences a_HasChild a_Organizes a_Aggregates a_HasSubtype a_HasProperty a_HasComponent a_NonHierarchicalReferences a_HasTypeDefinition hd ((p1 &&& (2147483647 : Int32)) % (10 : Int32)) (own_ten p1)
    obtain ⟨cq310, kq310, q310a, q310b, q310c⟩ := isOf hZ e291 E_a_Aggregates
    obtain ⟨_, _, ⟨T310, L310, k310, n310⟩, -, X310, ⟨Lc310, hQ310, l310, y310, z310⟩, st310⟩ := X291.virtualBack hx (y := (⟨"com/example/halyard/halyard/server/ReferenceType", "isSubtypeOf", "(Lcom/example/halyard/halyard/server/ReferenceType;)Z"⟩ : MethodName)) (z := (⟨"com/example/halyard/halyard/server/ReferenceType", "isSubtypeOf", "(Lcom/example/halyard/halyard/server/ReferenceType;)Z"⟩ : MethodName)) hown (mvT hZ (hw _ (List.mem_of_getElem? (i := 13) rfl))) (mvT hZ (hw _ (List.mem_of_getElem? (i := 14) rfl))) (notFace_of_selects (args := #[]) (mvT hZ (hw _ (List.mem_of_getElem? (i := 16) rfl)))) (mvT hZ (hw _ (List.mem_of_getElem? (i := 16) rfl))) (mvT hZ (hw _ (List.mem_of_getElem? (i := 15) rfl))) (by decide) (backOf (W := 0) (rm3_4 l Z a0 hw [] a_Aggregates a_HasChild a_HierarchicalReferences a_References (own_pick a_References a_HierarchicalReferences a_HasChild a_Organizes a_Aggregates a_HasSubtype a_HasProperty a_HasComponent a_NonHierarchicalReferences a_HasTypeDefinition ((p1 &&& (2147483647 : Int32)) % (10 : Int32))) h0 n0 Z0 F_a_Aggregates_supertype F_a_HasChild_supertype F_a_HierarchicalReferences_supertype F_a_References_supertype) hZ (hw _ (List.mem_of_getElem? (i := 17) rfl)) (hw _ (List.mem_of_getElem? (i := 9) rfl)) (by decide) (by decide)) q310a q310c (g := (mkF m 42 #[.val (.int p0), .val (.int p1), .val (.int ((p0 &&& (2147483647 : Int32)) % (10 : Int32))), .val (.int ((p1 &&& (2147483647 : Int32)) % (10 : Int32))), .val (.int (own_b (¬ ((((own_anc ((p0 &&& (2147483647 : Int32)) % (10 : Int32))) >>> (((p1 &&& (2147483647 : Int32)) % (10 : Int32)) &&& 31)) &&& (1 : Int32)) = (0 : Int32))))), .unset] [(.ref (own_pick a_References a_HierarchicalReferences a_HasChild a_Organizes a_Aggregates a_HasSubtype a_HasProperty a_HasComponent a_NonHierarchicalReferences a_HasTypeDefinition ((p1 &&& (2147483647 : Int32)) % (10 : Int32)))), (.ref a_Aggregates)])) rfl (by rw [hml]; rfl) (Steps.refl _) (argsL := [(.ref (own_pick a_References a_HierarchicalReferences a_HasChild a_Organizes a_Aggregates a_HasSubtype a_HasProperty a_HasComponent a_NonHierarchicalReferences a_HasTypeDefinition ((p1 &&& (2147483647 : Int32)) % (10 : Int32))))]) (rest := []) (lenOf pd_2 rfl) rfl (by show 2 * 0 + _ ≤ _; exact Nat.le_of_eq rfl) (hb hby at_42) (fun _ _ => ⟨rfl, e291, (by decide : 0 + 0 ≤ _), (by decide : 0 + 0 ≤ _)⟩)
    dsimp only [Pt.U, Pt.locs, Pt.cells, Pt.slots] at X310 l310 y310 z310 st310 hQ310
    subst l310 y310 z310
    obtain ⟨rfl, N310q, e310⟩ := hQ310
    have N310 := Fr.app N291 N310q
    have G311 : Go p e below A0 (T310.setTop (mkF m 45 #[.val (.int p0), .val (.int p1), .val (.int ((p0 &&& (2147483647 : Int32)) % (10 : Int32))), .val (.int ((p1 &&& (2147483647 : Int32)) % (10 : Int32))), .val (.int (own_b (¬ ((((own_anc ((p0 &&& (2147483647 : Int32)) % (10 : Int32))) >>> (((p1 &&& (2147483647 : Int32)) % (10 : Int32)) &&& 31)) &&& (1 : Int32)) = (0 : Int32))))), .unset] [(.int (own_b (a_Aggregates = (own_pick a_References a_HierarchicalReferences a_HasChild a_Organizes a_Aggregates a_HasSubtype a_HasProperty a_HasComponent a_NonHierarchicalReferences a_HasTypeDefinition ((p1 &&& (2147483647 : Int32)) % (10 : Int32))) ∨ a_HasChild = (own_pick a_References a_HierarchicalReferences a_HasChild a_Organizes a_Aggregates a_HasSubtype a_HasProperty a_HasComponent a_NonHierarchicalReferences a_HasTypeDefinition ((p1 &&& (2147483647 : Int32)) % (10 : Int32))) ∨ a_HierarchicalReferences = (own_pick a_References a_HierarchicalReferences a_HasChild a_Organizes a_Aggregates a_HasSubtype a_HasProperty a_HasComponent a_NonHierarchicalReferences a_HasTypeDefinition ((p1 &&& (2147483647 : Int32)) % (10 : Int32))) ∨ a_References = (own_pick a_References a_HierarchicalReferences a_HasChild a_Organizes a_Aggregates a_HasSubtype a_HasProperty a_HasComponent a_NonHierarchicalReferences a_HasTypeDefinition ((p1 &&& (2147483647 : Int32)) % (10 : Int32))))))])) := fun tq kq => G309 tq (st310.trans kq)
    have G312 : Go p e below A0 (T310.setTop (mkF m 59 #[.val (.int p0), .val (.int p1), .val (.int ((p0 &&& (2147483647 : Int32)) % (10 : Int32))), .val (.int ((p1 &&& (2147483647 : Int32)) % (10 : Int32))), .val (.int (own_b (¬ ((((own_anc ((p0 &&& (2147483647 : Int32)) % (10 : Int32))) >>> (((p1 &&& (2147483647 : Int32)) % (10 : Int32)) &&& 31)) &&& (1 : Int32)) = (0 : Int32))))), .val (.int (own_b (a_Aggregates = (own_pick a_References a_HierarchicalReferences a_HasChild a_Organizes a_Aggregates a_HasSubtype a_HasProperty a_HasComponent a_NonHierarchicalReferences a_HasTypeDefinition ((p1 &&& (2147483647 : Int32)) % (10 : Int32))) ∨ a_HasChild = (own_pick a_References a_HierarchicalReferences a_HasChild a_Organizes a_Aggregates a_HasSubtype a_HasProperty a_HasComponent a_NonHierarchicalReferences a_HasTypeDefinition ((p1 &&& (2147483647 : Int32)) % (10 : Int32))) ∨ a_HierarchicalReferences = (own_pick a_References a_HierarchicalReferences a_HasChild a_Organizes a_Aggregates a_HasSubtype a_HasProperty a_HasComponent a_NonHierarchicalReferences a_HasTypeDefinition ((p1 &&& (2147483647 : Int32)) % (10 : Int32))) ∨ a_References = (own_pick a_References a_HierarchicalReferences a_HasChild a_Organizes a_Aggregates a_HasSubtype a_HasProperty a_HasComponent a_NonHierarchicalReferences a_HasTypeDefinition ((p1 &&& (2147483647 : Int32)) % (10 : Int32))))))] [(.int (1 : Int32))])) := fun tq kq => G311 tq (by
      refine XS.istore X310.here hx rfl (hb hby at_45) rfl (l' := #[.val (.int p0), .val (.int p1), .val (.int ((p0 &&& (2147483647 : Int32)) % (10 : Int32))), .val (.int ((p1 &&& (2147483647 : Int32)) % (10 : Int32))), .val (.int (own_b (¬ ((((own_anc ((p0 &&& (2147483647 : Int32)) % (10 : Int32))) >>> (((p1 &&& (2147483647 : Int32)) % (10 : Int32)) &&& 31)) &&& (1 : Int32)) = (0 : Int32))))), .val (.int (own_b (a_Aggregates = (own_pick a_References a_HierarchicalReferences a_HasChild a_Organizes a_Aggregates a_HasSubtype a_HasProperty a_HasComponent a_NonHierarchicalReferences a_HasTypeDefinition ((p1 &&& (2147483647 : Int32)) % (10 : Int32))) ∨ a_HasChild = (own_pick a_References a_HierarchicalReferences a_HasChild a_Organizes a_Aggregates a_HasSubtype a_HasProperty a_HasComponent a_NonHierarchicalReferences a_HasTypeDefinition ((p1 &&& (2147483647 : Int32)) % (10 : Int32))) ∨ a_HierarchicalReferences = (own_pick a_References a_HierarchicalReferences a_HasChild a_Organizes a_Aggregates a_HasSubtype a_HasProperty a_HasComponent a_NonHierarchicalReferences a_HasTypeDefinition ((p1 &&& (2147483647 : Int32)) % (10 : Int32))) ∨ a_References = (own_pick a_References a_HierarchicalReferences a_HasChild a_Organizes a_Aggregates a_HasSubtype a_HasProperty a_HasComponent a_NonHierarchicalReferences a_HasTypeDefinition ((p1 &&& (2147483647 : Int32)) % (10 : Int32))))))]) rfl ?_
      show Steps p.tables e below (T310.setTop (mkF m 47 #[.val (.int p0), .val (.int p1), .val (.int ((p0 &&& (2147483647 : Int32)) % (10 : Int32))), .val (.int ((p1 &&& (2147483647 : Int32)) % (10 : Int32))), .val (.int (own_b (¬ ((((own_anc ((p0 &&& (2147483647 : Int32)) % (10 : Int32))) >>> (((p1 &&& (2147483647 : Int32)) % (10 : Int32)) &&& 31)) &&& (1 : Int32)) = (0 : Int32))))), .val (.int (own_b (a_Aggregates = (own_pick a_References a_HierarchicalReferences a_HasChild a_Organizes a_Aggregates a_HasSubtype a_HasProperty a_HasComponent a_NonHierarchicalReferences a_HasTypeDefinition ((p1 &&& (2147483647 : Int32)) % (10 : Int32))) ∨ a_HasChild = (own_pick a_References a_HierarchicalReferences a_HasChild a_Organizes a_Aggregates a_HasSubtype a_HasProperty a_HasComponent a_NonHierarchicalReferences a_HasTypeDefinition ((p1 &&& (2147483647 : Int32)) % (10 : Int32))) ∨ a_HierarchicalReferences = (own_pick a_References a_HierarchicalReferences a_HasChild a_Organizes a_Aggregates a_HasSubtype a_HasProperty a_HasComponent a_NonHierarchicalReferences a_HasTypeDefinition ((p1 &&& (2147483647 : Int32)) % (10 : Int32))) ∨ a_References = (own_pick a_References a_HierarchicalReferences a_HasChild a_Organizes a_Aggregates a_HasSubtype a_HasProperty a_HasComponent a_NonHierarchicalReferences a_HasTypeDefinition ((p1 &&& (2147483647 : Int32)) % (10 : Int32))))))] [])) _
      refine XS.iload X310.here hx rfl (hb hby at_47) rfl ?_
      show Steps p.tables e below (T310.setTop (mkF m 49 #[.val (.int p0), .val (.int p1), .val (.int ((p0 &&& (2147483647 : Int32)) % (10 : Int32))), .val (.int ((p1 &&& (2147483647 : Int32)) % (10 : Int32))), .val (.int (own_b (¬ ((((own_anc ((p0 &&& (2147483647 : Int32)) % (10 : Int32))) >>> (((p1 &&& (2147483647 : Int32)) % (10 : Int32)) &&& 31)) &&& (1 : Int32)) = (0 : Int32))))), .val (.int (own_b (a_Aggregates = (own_pick a_References a_HierarchicalReferences a_HasChild a_Organizes a_Aggregates a_HasSubtype a_HasProperty a_HasComponent a_NonHierarchicalReferences a_HasTypeDefinition ((p1 &&& (2147483647 : Int32)) % (10 : Int32))) ∨ a_HasChild = (own_pick a_References a_HierarchicalReferences a_HasChild a_Organizes a_Aggregates a_HasSubtype a_HasProperty a_HasComponent a_NonHierarchicalReferences a_HasTypeDefinition ((p1 &&& (2147483647 : Int32)) % (10 : Int32))) ∨ a_HierarchicalReferences = (own_pick a_References a_HierarchicalReferences a_HasChild a_Organizes a_Aggregates a_HasSubtype a_HasProperty a_HasComponent a_NonHierarchicalReferences a_HasTypeDefinition ((p1 &&& (2147483647 : Int32)) % (10 : Int32))) ∨ a_References = (own_pick a_References a_HierarchicalReferences a_HasChild a_Organizes a_Aggregates a_HasSubtype a_HasProperty a_HasComponent a_NonHierarchicalReferences a_HasTypeDefinition ((p1 &&& (2147483647 : Int32)) % (10 : Int32))))))] [(.int (own_b (a_Aggregates = (own_pick a_References a_HierarchicalReferences a_HasChild a_Organizes a_Aggregates a_HasSubtype a_HasProperty a_HasComponent a_NonHierarchicalReferences a_HasTypeDefinition ((p1 &&& (2147483647 : Int32)) % (10 : Int32))) ∨ a_HasChild = (own_pick a_References a_HierarchicalReferences a_HasChild a_Organizes a_Aggregates a_HasSubtype a_HasProperty a_HasComponent a_NonHierarchicalReferences a_HasTypeDefinition ((p1 &&& (2147483647 : Int32)) % (10 : Int32))) ∨ a_HierarchicalReferences = (own_pick a_References a_HierarchicalReferences a_HasChild a_Organizes a_Aggregates a_HasSubtype a_HasProperty a_HasComponent a_NonHierarchicalReferences a_HasTypeDefinition ((p1 &&& (2147483647 : Int32)) % (10 : Int32))) ∨ a_References = (own_pick a_References a_HierarchicalReferences a_HasChild a_Organizes a_Aggregates a_HasSubtype a_HasProperty a_HasComponent a_NonHierarchicalReferences a_HasTypeDefinition ((p1 &&& (2147483647 : Int32)) % (10 : Int32))))))])) _
      refine XS.iload X310.here hx rfl (hb hby at_49) rfl ?_
      show Steps p.tables e below (T310.setTop (mkF m 51 #[.val (.int p0), .val (.int p1), .val (.int ((p0 &&& (2147483647 : Int32)) % (10 : Int32))), .val (.int ((p1 &&& (2147483647 : Int32)) % (10 : Int32))), .val (.int (own_b (¬ ((((own_anc ((p0 &&& (2147483647 : Int32)) % (10 : Int32))) >>> (((p1 &&& (2147483647 : Int32)) % (10 : Int32)) &&& 31)) &&& (1 : Int32)) = (0 : Int32))))), .val (.int (own_b (a_Aggregates = (own_pick a_References a_HierarchicalReferences a_HasChild a_Organizes a_Aggregates a_HasSubtype a_HasProperty a_HasComponent a_NonHierarchicalReferences a_HasTypeDefinition ((p1 &&& (2147483647 : Int32)) % (10 : Int32))) ∨ a_HasChild = (own_pick a_References a_HierarchicalReferences a_HasChild a_Organizes a_Aggregates a_HasSubtype a_HasProperty a_HasComponent a_NonHierarchicalReferences a_HasTypeDefinition ((p1 &&& (2147483647 : Int32)) % (10 : Int32))) ∨ a_HierarchicalReferences = (own_pick a_References a_HierarchicalReferences a_HasChild a_Organizes a_Aggregates a_HasSubtype a_HasProperty a_HasComponent a_NonHierarchicalReferences a_HasTypeDefinition ((p1 &&& (2147483647 : Int32)) % (10 : Int32))) ∨ a_References = (own_pick a_References a_HierarchicalReferences a_HasChild a_Organizes a_Aggregates a_HasSubtype a_HasProperty a_HasComponent a_NonHierarchicalReferences a_HasTypeDefinition ((p1 &&& (2147483647 : Int32)) % (10 : Int32))))))] [(.int (own_b (¬ ((((own_anc ((p0 &&& (2147483647 : Int32)) % (10 : Int32))) >>> (((p1 &&& (2147483647 : Int32)) % (10 : Int32)) &&& 31)) &&& (1 : Int32)) = (0 : Int32))))), (.int (own_b (a_Aggregates = (own_pick a_References a_HierarchicalReferences a_HasChild a_Organizes a_Aggregates a_HasSubtype a_HasProperty a_HasComponent a_NonHierarchicalReferences a_HasTypeDefinition ((p1 &&& (2147483647 : Int32)) % (10 : Int32))) ∨ a_HasChild = (own_pick a_References a_HierarchicalReferences a_HasChild a_Organizes a_Aggregates a_HasSubtype a_HasProperty a_HasComponent a_NonHierarchicalReferences a_HasTypeDefinition ((p1 &&& (2147483647 : Int32)) % (10 : Int32))) ∨ a_HierarchicalReferences = (own_pick a_References a_HierarchicalReferences a_HasChild a_Organizes a_Aggregates a_HasSubtype a_HasProperty a_HasComponent a_NonHierarchicalReferences a_HasTypeDefinition ((p1 &&& (2147483647 : Int32)) % (10 : Int32))) ∨ a_References = (own_pick a_References a_HierarchicalReferences a_HasChild a_Organizes a_Aggregates a_HasSubtype a_HasProperty a_HasComponent a_NonHierarchicalReferences a_HasTypeDefinition ((p1 &&& (2147483647 : Int32)) % (10 : Int32))))))])) _
      refine XS.icmpNo X310.here hx rfl (hb hby at_51) rfl (teq hfin).2 ?_
      show Steps p.tables e below (T310.setTop (mkF m 54 #[.val (.int p0), .val (.int p1), .val (.int ((p0 &&& (2147483647 : Int32)) % (10 : Int32))), .val (.int ((p1 &&& (2147483647 : Int32)) % (10 : Int32))), .val (.int (own_b (¬ ((((own_anc ((p0 &&& (2147483647 : Int32)) % (10 : Int32))) >>> (((p1 &&& (2147483647 : Int32)) % (10 : Int32)) &&& 31)) &&& (1 : Int32)) = (0 : Int32))))), .val (.int (own_b (a_Aggregates = (own_pick a_References a_HierarchicalReferences a_HasChild a_Organizes a_Aggregates a_HasSubtype a_HasProperty a_HasComponent a_NonHierarchicalReferences a_HasTypeDefinition ((p1 &&& (2147483647 : Int32)) % (10 : Int32))) ∨ a_HasChild = (own_pick a_References a_HierarchicalReferences a_HasChild a_Organizes a_Aggregates a_HasSubtype a_HasProperty a_HasComponent a_NonHierarchicalReferences a_HasTypeDefinition ((p1 &&& (2147483647 : Int32)) % (10 : Int32))) ∨ a_HierarchicalReferences = (own_pick a_References a_HierarchicalReferences a_HasChild a_Organizes a_Aggregates a_HasSubtype a_HasProperty a_HasComponent a_NonHierarchicalReferences a_HasTypeDefinition ((p1 &&& (2147483647 : Int32)) % (10 : Int32))) ∨ a_References = (own_pick a_References a_HierarchicalReferences a_HasChild a_Organizes a_Aggregates a_HasSubtype a_HasProperty a_HasComponent a_NonHierarchicalReferences a_HasTypeDefinition ((p1 &&& (2147483647 : Int32)) % (10 : Int32))))))] [])) _
      refine XS.iconst X310.here hx rfl (hb hby at_54) ?_
      show Steps p.tables e below (T310.setTop (mkF m 55 #[.val (.int p0), .val (.int p1), .val (.int ((p0 &&& (2147483647 : Int32)) % (10 : Int32))), .val (.int ((p1 &&& (2147483647 : Int32)) % (10 : Int32))), .val (.int (own_b (¬ ((((own_anc ((p0 &&& (2147483647 : Int32)) % (10 : Int32))) >>> (((p1 &&& (2147483647 : Int32)) % (10 : Int32)) &&& 31)) &&& (1 : Int32)) = (0 : Int32))))), .val (.int (own_b (a_Aggregates = (own_pick a_References a_HierarchicalReferences a_HasChild a_Organizes a_Aggregates a_HasSubtype a_HasProperty a_HasComponent a_NonHierarchicalReferences a_HasTypeDefinition ((p1 &&& (2147483647 : Int32)) % (10 : Int32))) ∨ a_HasChild = (own_pick a_References a_HierarchicalReferences a_HasChild a_Organizes a_Aggregates a_HasSubtype a_HasProperty a_HasComponent a_NonHierarchicalReferences a_HasTypeDefinition ((p1 &&& (2147483647 : Int32)) % (10 : Int32))) ∨ a_HierarchicalReferences = (own_pick a_References a_HierarchicalReferences a_HasChild a_Organizes a_Aggregates a_HasSubtype a_HasProperty a_HasComponent a_NonHierarchicalReferences a_HasTypeDefinition ((p1 &&& (2147483647 : Int32)) % (10 : Int32))) ∨ a_References = (own_pick a_References a_HierarchicalReferences a_HasChild a_Organizes a_Aggregates a_HasSubtype a_HasProperty a_HasComponent a_NonHierarchicalReferences a_HasTypeDefinition ((p1 &&& (2147483647 : Int32)) % (10 : Int32))))))] [(.int (1 : Int32))])) _
      refine XS.goto X310.here hx rfl (pc0 := 55) (pc' := 59) rfl (hb hby at_55) (by decide) (by decide) ?_
      show Steps p.tables e below (T310.setTop (mkF m 59 #[.val (.int p0), .val (.int p1), .val (.int ((p0 &&& (2147483647 : Int32)) % (10 : Int32))), .val (.int ((p1 &&& (2147483647 : Int32)) % (10 : Int32))), .val (.int (own_b (¬ ((((own_anc ((p0 &&& (2147483647 : Int32)) % (10 : Int32))) >>> (((p1 &&& (2147483647 : Int32)) % (10 : Int32)) &&& 31)) &&& (1 : Int32)) = (0 : Int32))))), .val (.int (own_b (a_Aggregates = (own_pick a_References a_HierarchicalReferences a_HasChild a_Organizes a_Aggregates a_HasSubtype a_HasProperty a_HasComponent a_NonHierarchicalReferences a_HasTypeDefinition ((p1 &&& (2147483647 : Int32)) % (10 : Int32))) ∨ a_HasChild = (own_pick a_References a_HierarchicalReferences a_HasChild a_Organizes a_Aggregates a_HasSubtype a_HasProperty a_HasComponent a_NonHierarchicalReferences a_HasTypeDefinition ((p1 &&& (2147483647 : Int32)) % (10 : Int32))) ∨ a_HierarchicalReferences = (own_pick a_References a_HierarchicalReferences a_HasChild a_Organizes a_Aggregates a_HasSubtype a_HasProperty a_HasComponent a_NonHierarchicalReferences a_HasTypeDefinition ((p1 &&& (2147483647 : Int32)) % (10 : Int32))) ∨ a_References = (own_pick a_References a_HierarchicalReferences a_HasChild a_Organizes a_Aggregates a_HasSubtype a_HasProperty a_HasComponent a_NonHierarchicalReferences a_HasTypeDefinition ((p1 &&& (2147483647 : Int32)) % (10 : Int32))))))] [(.int (1 : Int32))])) _
      exact kq)
    obtain ⟨fs, hr, hrun, hended, hW, hsame⟩ := X310.leave (v := some (.int (nar .boolean (1 : Int32)))) (fun h => by rw [Bd.returns] at h; cases h)
    refine ⟨_, _, (by rw [← hA0]; exact G312 _ (retN X310 hx (t := .boolean) Bd.returns (by simp) (hb hby at_59) hr)), hrun, hended, _, _, rfl, ?_, ⟨_, rfl⟩, hW, hsame.mono (by decide) (by decide)⟩
    exact ⟨rfl, N310⟩
  · have G313 : Go p e below A0 (T291.setTop (mkF m 42 #[.val (.int p0), .val (.int p1), .val (.int ((p0 &&& (2147483647 : Int32)) % (10 : Int32))), .val (.int ((p1 &&& (2147483647 : Int32)) % (10 : Int32))), .val (.int (own_b (¬ ((((own_anc ((p0 &&& (2147483647 : Int32)) % (10 : Int32))) >>> (((p1 &&& (2147483647 : Int32)) % (10 : Int32)) &&& 31)) &&& (1 : Int32)) = (0 : Int32))))), .unset] [(.ref (own_pick a_References a_HierarchicalReferences a_HasChild a_Organizes a_Aggregates a_HasSubtype a_HasProperty a_HasComponent a_NonHierarchicalReferences a_HasTypeDefinition ((p1 &&& (2147483647 : Int32)) % (10 : Int32)))), (.ref a_HasSubtype)])) := by
      have q : own_pick a_References a_HierarchicalReferences a_HasChild a_Organizes a_Aggregates a_HasSubtype a_HasProperty a_HasComponent a_NonHierarchicalReferences a_HasTypeDefinition ((p0 &&& (2147483647 : Int32)) % (10 : Int32)) = a_HasSubtype := by rw [hk]; rfl
      have q2 := G292
      rw [q] at q2
      exact q2
    have hfin : own_b (a_HasSubtype = (own_pick a_References a_HierarchicalReferences a_HasChild a_Organizes a_Aggregates a_HasSubtype a_HasProperty a_HasComponent a_NonHierarchicalReferences a_HasTypeDefinition ((p1 &&& (2147483647 : Int32)) % (10 : Int32))) ∨ a_HasChild = (own_pick a_References a_HierarchicalReferences a_HasChild a_Organizes a_Aggregates a_HasSubtype a_HasProperty a_HasComponent a_NonHierarchicalReferences a_HasTypeDefinition ((p1 &&& (2147483647 : Int32)) % (10 : Int32))) ∨ a_HierarchicalReferences = (own_pick a_References a_HierarchicalReferences a_HasChild a_Organizes a_Aggregates a_HasSubtype a_HasProperty a_HasComponent a_NonHierarchicalReferences a_HasTypeDefinition ((p1 &&& (2147483647 : Int32)) % (10 : Int32))) ∨ a_References = (own_pick a_References a_HierarchicalReferences a_HasChild a_Organizes a_Aggregates a_HasSubtype a_HasProperty a_HasComponent a_NonHierarchicalReferences a_HasTypeDefinition ((p1 &&& (2147483647 : Int32)) % (10 : Int32)))) = own_b (¬ ((((own_anc ((p0 &&& (2147483647 : Int32)) % (10 : Int32))) >>> (((p1 &&& (2147483647 : Int32)) % (10 : Int32)) &&& 31)) &&& (1 : Int32)) = (0 : Int32))) := by
      rw [hk]
      exact own_sub_5 a_References a_HierarchicalReferences a_HasChild a_Organizes a_Aggregates a_HasSubtype a_HasProperty a_HasComponent a_NonHierarchicalReferences a_HasTypeDefinition hd ((p1 &&& (2147483647 : Int32)) % (10 : Int32)) (own_ten p1)
    obtain ⟨cq314, kq314, q314a, q314b, q314c⟩ := isOf hZ e291 E_a_HasSubtype
    obtain ⟨_, _, ⟨T314, L314, k314, n314⟩, -, X314, ⟨Lc314, hQ314, l314, y314, z314⟩, st314⟩ := X291.virtualBack hx (y := (⟨"com/example/halyard/halyard/server/ReferenceType", "isSubtypeOf", "(Lcom/example/halyard/halyard/server/ReferenceType;)Z"⟩ : MethodName)) (z := (⟨"com/example/halyard/halyard/server/ReferenceType", "isSubtypeOf", "(Lcom/example/halyard/halyard/server/ReferenceType;)Z"⟩ : MethodName)) hown (mvT hZ (hw _ (List.mem_of_getElem? (i := 13) rfl))) (mvT hZ (hw _ (List.mem_of_getElem? (i := 14) rfl))) (notFace_of_selects (args := #[]) (mvT hZ (hw _ (List.mem_of_getElem? (i := 16) rfl)))) (mvT hZ (hw _ (List.mem_of_getElem? (i := 16) rfl))) (mvT hZ (hw _ (List.mem_of_getElem? (i := 15) rfl))) (by decide) (backOf (W := 0) (rm3_5 l Z a0 hw [] a_HasSubtype a_HasChild a_HierarchicalReferences a_References (own_pick a_References a_HierarchicalReferences a_HasChild a_Organizes a_Aggregates a_HasSubtype a_HasProperty a_HasComponent a_NonHierarchicalReferences a_HasTypeDefinition ((p1 &&& (2147483647 : Int32)) % (10 : Int32))) h0 n0 Z0 F_a_HasSubtype_supertype F_a_HasChild_supertype F_a_HierarchicalReferences_supertype F_a_References_supertype) hZ (hw _ (List.mem_of_getElem? (i := 17) rfl)) (hw _ (List.mem_of_getElem? (i := 9) rfl)) (by decide) (by decide)) q314a q314c (g := (mkF m 42 #[.val (.int p0), .val (.int p1), .val (.int ((p0 &&& (2147483647 : Int32)) % (10 : Int32))), .val (.int ((p1 &&& (2147483647 : Int32)) % (10 : Int32))), .val (.int (own_b (¬ ((((own_anc ((p0 &&& (2147483647 : Int32)) % (10 : Int32))) >>> (((p1 &&& (2147483647 : Int32)) % (10 : Int32)) &&& 31)) &&& (1 : Int32)) = (0 : Int32))))), .unset] [(.ref (own_pick a_References a_HierarchicalReferences a_HasChild a_Organizes a_Aggregates a_HasSubtype a_HasProperty a_HasComponent a_NonHierarchicalReferences a_HasTypeDefinition ((p1 &&& (2147483647 : Int32)) % (10 : Int32)))), (.ref a_HasSubtype)])) rfl (by rw [hml]; rfl) (Steps.refl _) (argsL := [(.ref (own_pick a_References a_HierarchicalReferences a_HasChild a_Organizes a_Aggregates a_HasSubtype a_HasProperty a_HasComponent a_NonHierarchicalReferences a_HasTypeDefinition ((p1 &&& (2147483647 : Int32)) % (10 : Int32))))]) (rest := []) (lenOf pd_2 rfl) rfl (by show 2 * 0 + _ ≤ _; exact Nat.le_of_eq rfl) (hb hby at_42) (fun _ _ => ⟨rfl, e291, (by decide : 0 + 0 ≤ _), (by decide : 0 + 0 ≤ _)⟩)
    dsimp only [Pt.U, Pt.locs, Pt.cells, Pt.slots] at X314 l314 y314 z314 st314 hQ314
    subst l314 y314 z314
    obtain ⟨rfl, N314q, e314⟩ := hQ314
    have N314 := Fr.app N291 N314q
    have G315 : Go p e below A0 (T314.setTop (mkF m 45 #[.val (.int p0), .val (.int p1), .val (.int ((p0 &&& (2147483647 : Int32)) % (10 : Int32))), .val (.int ((p1 &&& (2147483647 : Int32)) % (10 : Int32))), .val (.int (own_b (¬ ((((own_anc ((p0 &&& (2147483647 : Int32)) % (10 : Int32))) >>> (((p1 &&& (2147483647 : Int32)) % (10 : Int32)) &&& 31)) &&& (1 : Int32)) = (0 : Int32))))), .unset] [(.int (own_b (a_HasSubtype = (own_pick a_References a_HierarchicalReferences a_HasChild a_Organizes a_Aggregates a_HasSubtype a_HasProperty a_HasComponent a_NonHierarchicalReferences a_HasTypeDefinition ((p1 &&& (2147483647 : Int32)) % (10 : Int32))) ∨ a_HasChild = (own_pick a_References a_HierarchicalReferences a_HasChild a_Organizes a_Aggregates a_HasSubtype a_HasProperty a_HasComponent a_NonHierarchicalReferences a_HasTypeDefinition ((p1 &&& (2147483647 : Int32)) % (10 : Int32))) ∨ a_HierarchicalReferences = (own_pick a_References a_HierarchicalReferences a_HasChild a_Organizes a_Aggregates a_HasSubtype a_HasProperty a_HasComponent a_NonHierarchicalReferences a_HasTypeDefinition ((p1 &&& (2147483647 : Int32)) % (10 : Int32))) ∨ a_References = (own_pick a_References a_HierarchicalReferences a_HasChild a_Organizes a_Aggregates a_HasSubtype a_HasProperty a_HasComponent a_NonHierarchicalReferences a_HasTypeDefinition ((p1 &&& (2147483647 : Int32)) % (10 : Int32))))))])) := fun tq kq => G313 tq (st314.trans kq)
    have G316 : Go p e below A0 (T314.setTop (mkF m 59 #[.val (.int p0), .val (.int p1), .val (.int ((p0 &&& (2147483647 : Int32)) % (10 : Int32))), .val (.int ((p1 &&& (2147483647 : Int32)) % (10 : Int32))), .val (.int (own_b (¬ ((((own_anc ((p0 &&& (2147483647 : Int32)) % (10 : Int32))) >>> (((p1 &&& (2147483647 : Int32)) % (10 : Int32)) &&& 31)) &&& (1 : Int32)) = (0 : Int32))))), .val (.int (own_b (a_HasSubtype = (own_pick a_References a_HierarchicalReferences a_HasChild a_Organizes a_Aggregates a_HasSubtype a_HasProperty a_HasComponent a_NonHierarchicalReferences a_HasTypeDefinition ((p1 &&& (2147483647 : Int32)) % (10 : Int32))) ∨ a_HasChild = (own_pick a_References a_HierarchicalReferences a_HasChild a_Organizes a_Aggregates a_HasSubtype a_HasProperty a_HasComponent a_NonHierarchicalReferences a_HasTypeDefinition ((p1 &&& (2147483647 : Int32)) % (10 : Int32))) ∨ a_HierarchicalReferences = (own_pick a_References a_HierarchicalReferences a_HasChild a_Organizes a_Aggregates a_HasSubtype a_HasProperty a_HasComponent a_NonHierarchicalReferences a_HasTypeDefinition ((p1 &&& (2147483647 : Int32)) % (10 : Int32))) ∨ a_References = (own_pick a_References a_HierarchicalReferences a_HasChild a_Organizes a_Aggregates a_HasSubtype a_HasProperty a_HasComponent a_NonHierarchicalReferences a_HasTypeDefinition ((p1 &&& (2147483647 : Int32)) % (10 : Int32))))))] [(.int (1 : Int32))])) := fun tq kq => G315 tq (by
      refine XS.istore X314.here hx rfl (hb hby at_45) rfl (l' := #[.val (.int p0), .val (.int p1), .val (.int ((p0 &&& (2147483647 : Int32)) % (10 : Int32))), .val (.int ((p1 &&& (2147483647 : Int32)) % (10 : Int32))), .val (.int (own_b (¬ ((((own_anc ((p0 &&& (2147483647 : Int32)) % (10 : Int32))) >>> (((p1 &&& (2147483647 : Int32)) % (10 : Int32)) &&& 31)) &&& (1 : Int32)) = (0 : Int32))))), .val (.int (own_b (a_HasSubtype = (own_pick a_References a_HierarchicalReferences a_HasChild a_Organizes a_Aggregates a_HasSubtype a_HasProperty a_HasComponent a_NonHierarchicalReferences a_HasTypeDefinition ((p1 &&& (2147483647 : Int32)) % (10 : Int32))) ∨ a_HasChild = (own_pick a_References a_HierarchicalReferences a_HasChild a_Organizes a_Aggregates a_HasSubtype a_HasProperty a_HasComponent a_NonHierarchicalReferences a_HasTypeDefinition ((p1 &&& (2147483647 : Int32)) % (10 : Int32))) ∨ a_HierarchicalReferences = (own_pick a_References a_HierarchicalReferences a_HasChild a_Organizes a_Aggregates a_HasSubtype a_HasProperty a_HasComponent a_NonHierarchicalReferences a_HasTypeDefinition ((p1 &&& (2147483647 : Int32)) % (10 : Int32))) ∨ a_References = (own_pick a_References a_HierarchicalReferences a_HasChild a_Organizes a_Aggregates a_HasSubtype a_HasProperty a_HasComponent a_NonHierarchicalReferences a_HasTypeDefinition ((p1 &&& (2147483647 : Int32)) % (10 : Int32))))))]) rfl ?_
      show Steps p.tables e below (T314.setTop (mkF m 47 #[.val (.int p0), .val (.int p1), .val (.int ((p0 &&& (2147483647 : Int32)) % (10 : Int32))), .val (.int ((p1 &&& (2147483647 : Int32)) % (10 : Int32))), .val (.int (own_b (¬ ((((own_anc ((p0 &&& (2147483647 : Int32)) % (10 : Int32))) >>> (((p1 &&& (2147483647 : Int32)) % (10 : Int32)) &&& 31)) &&& (1 : Int32)) = (0 : Int32))))), .val (.int (own_b (a_HasSubtype = (own_pick a_References a_HierarchicalReferences a_HasChild a_Organizes a_Aggregates a_HasSubtype a_HasProperty a_HasComponent a_NonHierarchicalReferences a_HasTypeDefinition ((p1 &&& (2147483647 : Int32)) % (10 : Int32))) ∨ a_HasChild = (own_pick a_References a_HierarchicalReferences a_HasChild a_Organizes a_Aggregates a_HasSubtype a_HasProperty a_HasComponent a_NonHierarchicalReferences a_HasTypeDefinition ((p1 &&& (2147483647 : Int32)) % (10 : Int32))) ∨ a_HierarchicalReferences = (own_pick a_References a_HierarchicalReferences a_HasChild a_Organizes a_Aggregates a_HasSubtype a_HasProperty a_HasComponent a_NonHierarchicalReferences a_HasTypeDefinition ((p1 &&& (2147483647 : Int32)) % (10 : Int32))) ∨ a_References = (own_pick a_References a_HierarchicalReferences a_HasChild a_Organizes a_Aggregates a_HasSubtype a_HasProperty a_HasComponent a_NonHierarchicalReferences a_HasTypeDefinition ((p1 &&& (2147483647 : Int32)) % (10 : Int32))))))] [])) _
      refine XS.iload X314.here hx rfl (hb hby at_47) rfl ?_
      show Steps p.tables e below (T314.setTop (mkF m 49 #[.val (.int p0), .val (.int p1), .val (.int ((p0 &&& (2147483647 : Int32)) % (10 : Int32))), .val (.int ((p1 &&& (2147483647 : Int32)) % (10 : Int32))), .val (.int (own_b (¬ ((((own_anc ((p0 &&& (2147483647 : Int32)) % (10 : Int32))) >>> (((p1 &&& (2147483647 : Int32)) % (10 : Int32)) &&& 31)) &&& (1 : Int32)) = (0 : Int32))))), .val (.int (own_b (a_HasSubtype = (own_pick a_References a_HierarchicalReferences a_HasChild a_Organizes a_Aggregates a_HasSubtype a_HasProperty a_HasComponent a_NonHierarchicalReferences a_HasTypeDefinition ((p1 &&& (2147483647 : Int32)) % (10 : Int32))) ∨ a_HasChild = (own_pick a_References a_HierarchicalReferences a_HasChild a_Organizes a_Aggregates a_HasSubtype a_HasProperty a_HasComponent a_NonHierarchicalReferences a_HasTypeDefinition ((p1 &&& (2147483647 : Int32)) % (10 : Int32))) ∨ a_HierarchicalReferences = (own_pick a_References a_HierarchicalReferences a_HasChild a_Organizes a_Aggregates a_HasSubtype a_HasProperty a_HasComponent a_NonHierarchicalReferences a_HasTypeDefinition ((p1 &&& (2147483647 : Int32)) % (10 : Int32))) ∨ a_References = (own_pick a_References a_HierarchicalReferences a_HasChild a_Organizes a_Aggregates a_HasSubtype a_HasProperty a_HasComponent a_NonHierarchicalReferences a_HasTypeDefinition ((p1 &&& (2147483647 : Int32)) % (10 : Int32))))))] [(.int (own_b (a_HasSubtype = (own_pick a_References a_HierarchicalReferences a_HasChild a_Organizes a_Aggregates a_HasSubtype a_HasProperty a_HasComponent a_NonHierarchicalReferences a_HasTypeDefinition ((p1 &&& (2147483647 : Int32)) % (10 : Int32))) ∨ a_HasChild = (own_pick a_References a_HierarchicalReferences a_HasChild a_Organizes a_Aggregates a_HasSubtype a_HasProperty a_HasComponent a_NonHierarchicalReferences a_HasTypeDefinition ((p1 &&& (2147483647 : Int32)) % (10 : Int32))) ∨ a_HierarchicalReferences = (own_pick a_References a_HierarchicalReferences a_HasChild a_Organizes a_Aggregates a_HasSubtype a_HasProperty a_HasComponent a_NonHierarchicalReferences a_HasTypeDefinition ((p1 &&& (2147483647 : Int32)) % (10 : Int32))) ∨ a_References = (own_pick a_References a_HierarchicalReferences a_HasChild a_Organizes a_Aggregates a_HasSubtype a_HasProperty a_HasComponent a_NonHierarchicalReferences a_HasTypeDefinition ((p1 &&& (2147483647 : Int32)) % (10 : Int32))))))])) _
      refine XS.iload X314.here hx rfl (hb hby at_49) rfl ?_
      show Steps p.tables e below (T314.setTop (mkF m 51 #[.val (.int p0), .val (.int p1), .val (.int ((p0 &&& (2147483647 : Int32)) % (10 : Int32))), .val (.int ((p1 &&& (2147483647 : Int32)) % (10 : Int32))), .val (.int (own_b (¬ ((((own_anc ((p0 &&& (2147483647 : Int32)) % (10 : Int32))) >>> (((p1 &&& (2147483647 : Int32)) % (10 : Int32)) &&& 31)) &&& (1 : Int32)) = (0 : Int32))))), .val (.int (own_b (a_HasSubtype = (own_pick a_References a_HierarchicalReferences a_HasChild a_Organizes a_Aggregates a_HasSubtype a_HasProperty a_HasComponent a_NonHierarchicalReferences a_HasTypeDefinition ((p1 &&& (2147483647 : Int32)) % (10 : Int32))) ∨ a_HasChild = (own_pick a_References a_HierarchicalReferences a_HasChild a_Organizes a_Aggregates a_HasSubtype a_HasProperty a_HasComponent a_NonHierarchicalReferences a_HasTypeDefinition ((p1 &&& (2147483647 : Int32)) % (10 : Int32))) ∨ a_HierarchicalReferences = (own_pick a_References a_HierarchicalReferences a_HasChild a_Organizes a_Aggregates a_HasSubtype a_HasProperty a_HasComponent a_NonHierarchicalReferences a_HasTypeDefinition ((p1 &&& (2147483647 : Int32)) % (10 : Int32))) ∨ a_References = (own_pick a_References a_HierarchicalReferences a_HasChild a_Organizes a_Aggregates a_HasSubtype a_HasProperty a_HasComponent a_NonHierarchicalReferences a_HasTypeDefinition ((p1 &&& (2147483647 : Int32)) % (10 : Int32))))))] [(.int (own_b (¬ ((((own_anc ((p0 &&& (2147483647 : Int32)) % (10 : Int32))) >>> (((p1 &&& (2147483647 : Int32)) % (10 : Int32)) &&& 31)) &&& (1 : Int32)) = (0 : Int32))))), (.int (own_b (a_HasSubtype = (own_pick a_References a_HierarchicalReferences a_HasChild a_Organizes a_Aggregates a_HasSubtype a_HasProperty a_HasComponent a_NonHierarchicalReferences a_HasTypeDefinition ((p1 &&& (2147483647 : Int32)) % (10 : Int32))) ∨ a_HasChild = (own_pick a_References a_HierarchicalReferences a_HasChild a_Organizes a_Aggregates a_HasSubtype a_HasProperty a_HasComponent a_NonHierarchicalReferences a_HasTypeDefinition ((p1 &&& (2147483647 : Int32)) % (10 : Int32))) ∨ a_HierarchicalReferences = (own_pick a_References a_HierarchicalReferences a_HasChild a_Organizes a_Aggregates a_HasSubtype a_HasProperty a_HasComponent a_NonHierarchicalReferences a_HasTypeDefinition ((p1 &&& (2147483647 : Int32)) % (10 : Int32))) ∨ a_References = (own_pick a_References a_HierarchicalReferences a_HasChild a_Organizes a_Aggregates a_HasSubtype a_HasProperty a_HasComponent a_NonHierarchicalReferences a_HasTypeDefinition ((p1 &&& (2147483647 : Int32)) % (10 : Int32))))))])) _
      refine XS.icmpNo X314.here hx rfl (hb hby at_51) rfl (teq hfin).2 ?_
      show Steps p.tables e below (T314.setTop (mkF m 54 #[.val (.int p0), .val (.int p1), .val (.int ((p0 &&& (2147483647 : Int32)) % (10 : Int32))), .val (.int ((p1 &&& (2147483647 : Int32)) % (10 : Int32))), .val (.int (own_b (¬ ((((own_anc ((p0 &&& (2147483647 : Int32)) % (10 : Int32))) >>> (((p1 &&& (2147483647 : Int32)) % (10 : Int32)) &&& 31)) &&& (1 : Int32)) = (0 : Int32))))), .val (.int (own_b (a_HasSubtype = (own_pick a_References a_HierarchicalReferences a_HasChild a_Organizes a_Aggregates a_HasSubtype a_HasProperty a_HasComponent a_NonHierarchicalReferences a_HasTypeDefinition ((p1 &&& (2147483647 : Int32)) % (10 : Int32))) ∨ a_HasChild = (own_pick a_References a_HierarchicalReferences a_HasChild a_Organizes a_Aggregates a_HasSubtype a_HasProperty a_HasComponent a_NonHierarchicalReferences a_HasTypeDefinition ((p1 &&& (2147483647 : Int32)) % (10 : Int32))) ∨ a_HierarchicalReferences = (own_pick a_References a_HierarchicalReferences a_HasChild a_Organizes a_Aggregates a_HasSubtype a_HasProperty a_HasComponent a_NonHierarchicalReferences a_HasTypeDefinition ((p1 &&& (2147483647 : Int32)) % (10 : Int32))) ∨ a_References = (own_pick a_References a_HierarchicalReferences a_HasChild a_Organizes a_Aggregates a_HasSubtype a_HasProperty a_HasComponent a_NonHierarchicalReferences a_HasTypeDefinition ((p1 &&& (2147483647 : Int32)) % (10 : Int32))))))] [])) _
      refine XS.iconst X314.here hx rfl (hb hby at_54) ?_
      show Steps p.tables e below (T314.setTop (mkF m 55 #[.val (.int p0), .val (.int p1), .val (.int ((p0 &&& (2147483647 : Int32)) % (10 : Int32))), .val (.int ((p1 &&& (2147483647 : Int32)) % (10 : Int32))), .val (.int (own_b (¬ ((((own_anc ((p0 &&& (2147483647 : Int32)) % (10 : Int32))) >>> (((p1 &&& (2147483647 : Int32)) % (10 : Int32)) &&& 31)) &&& (1 : Int32)) = (0 : Int32))))), .val (.int (own_b (a_HasSubtype = (own_pick a_References a_HierarchicalReferences a_HasChild a_Organizes a_Aggregates a_HasSubtype a_HasProperty a_HasComponent a_NonHierarchicalReferences a_HasTypeDefinition ((p1 &&& (2147483647 : Int32)) % (10 : Int32))) ∨ a_HasChild = (own_pick a_References a_HierarchicalReferences a_HasChild a_Organizes a_Aggregates a_HasSubtype a_HasProperty a_HasComponent a_NonHierarchicalReferences a_HasTypeDefinition ((p1 &&& (2147483647 : Int32)) % (10 : Int32))) ∨ a_HierarchicalReferences = (own_pick a_References a_HierarchicalReferences a_HasChild a_Organizes a_Aggregates a_HasSubtype a_HasProperty a_HasComponent a_NonHierarchicalReferences a_HasTypeDefinition ((p1 &&& (2147483647 : Int32)) % (10 : Int32))) ∨ a_References = (own_pick a_References a_HierarchicalReferences a_HasChild a_Organizes a_Aggregates a_HasSubtype a_HasProperty a_HasComponent a_NonHierarchicalReferences a_HasTypeDefinition ((p1 &&& (2147483647 : Int32)) % (10 : Int32))))))] [(.int (1 : Int32))])) _
      refine XS.goto X314.here hx rfl (pc0 := 55) (pc' := 59) rfl (hb hby at_55) (by decide) (by decide) ?_
      show Steps p.tables e below (T314.setTop (mkF m 59 #[.val (.int p0), .val (.int p1), .val (.int ((p0 &&& (2147483647 : Int32)) % (10 : Int32))), .val (.int ((p1 &&& (2147483647 : Int32)) % (10 : Int32))), .val (.int (own_b (¬ ((((own_anc ((p0 &&& (2147483647 : Int32)) % (10 : Int32))) >>> (((p1 &&& (2147483647 : Int32)) % (10 : Int32)) &&& 31)) &&& (1 : Int32)) = (0 : Int32))))), .val (.int (own_b (a_HasSubtype = (own_pick a_References a_HierarchicalReferences a_HasChild a_Organizes a_Aggregates a_HasSubtype a_HasProperty a_HasComponent a_NonHierarchicalReferences a_HasTypeDefinition ((p1 &&& (2147483647 : Int32)) % (10 : Int32))) ∨ a_HasChild = (own_pick a_References a_HierarchicalReferences a_HasChild a_Organizes a_Aggregates a_HasSubtype a_HasProperty a_HasComponent a_NonHierarchicalReferences a_HasTypeDefinition ((p1 &&& (2147483647 : Int32)) % (10 : Int32))) ∨ a_HierarchicalReferences = (own_pick a_References a_HierarchicalReferences a_HasChild a_Organizes a_Aggregates a_HasSubtype a_HasProperty a_HasComponent a_NonHierarchicalReferences a_HasTypeDefinition ((p1 &&& (2147483647 : Int32)) % (10 : Int32))) ∨ a_References = (own_pick a_References a_HierarchicalReferences a_HasChild a_Organizes a_Aggregates a_HasSubtype a_HasProperty a_HasComponent a_NonHierarchicalReferences a_HasTypeDefinition ((p1 &&& (2147483647 : Int32)) % (10 : Int32))))))] [(.int (1 : Int32))])) _
      exact kq)
    obtain ⟨fs, hr, hrun, hended, hW, hsame⟩ := X314.leave (v := some (.int (nar .boolean (1 : Int32)))) (fun h => by rw [Bd.returns] at h; cases h)
    refine ⟨_, _, (by rw [← hA0]; exact G316 _ (retN X314 hx (t := .boolean) Bd.returns (by simp) (hb hby at_59) hr)), hrun, hended, _, _, rfl, ?_, ⟨_, rfl⟩, hW, hsame.mono (by decide) (by decide)⟩
    exact ⟨rfl, N314⟩
  · have G317 : Go p e below A0 (T291.setTop (mkF m 42 #[.val (.int p0), .val (.int p1), .val (.int ((p0 &&& (2147483647 : Int32)) % (10 : Int32))), .val (.int ((p1 &&& (2147483647 : Int32)) % (10 : Int32))), .val (.int (own_b (¬ ((((own_anc ((p0 &&& (2147483647 : Int32)) % (10 : Int32))) >>> (((p1 &&& (2147483647 : Int32)) % (10 : Int32)) &&& 31)) &&& (1 : Int32)) = (0 : Int32))))), .unset] [(.ref (own_pick a_References a_HierarchicalReferences a_HasChild a_Organizes a_Aggregates a_HasSubtype a_HasProperty a_HasComponent a_NonHierarchicalReferences a_HasTypeDefinition ((p1 &&& (2147483647 : Int32)) % (10 : Int32)))), (.ref a_HasProperty)])) := by
      have q : own_pick a_References a_HierarchicalReferences a_HasChild a_Organizes a_Aggregates a_HasSubtype a_HasProperty a_HasComponent a_NonHierarchicalReferences a_HasTypeDefinition ((p0 &&& (2147483647 : Int32)) % (10 : Int32)) = a_HasProperty := by rw [hk]; rfl
      have q2 := G292
      rw [q] at q2
      exact q2
    have hfin : own_b (a_HasProperty = (own_pick a_References a_HierarchicalReferences a_HasChild a_Organizes a_Aggregates a_HasSubtype a_HasProperty a_HasComponent a_NonHierarchicalReferences a_HasTypeDefinition ((p1 &&& (2147483647 : Int32)) % (10 : Int32))) ∨ a_Aggregates = (own_pick a_References a_HierarchicalReferences a_HasChild a_Organizes a_Aggregates a_HasSubtype a_HasProperty a_HasComponent a_NonHierarchicalReferences a_HasTypeDefinition ((p1 &&& (2147483647 : Int32)) % (10 : Int32))) ∨ a_HasChild = (own_pick a_References a_HierarchicalReferences a_HasChild a_Organizes a_Aggregates a_HasSubtype a_HasProperty a_HasComponent a_NonHierarchicalReferences a_HasTypeDefinition ((p1 &&& (2147483647 : Int32)) % (10 : Int32))) ∨ a_HierarchicalReferences = (own_pick a_References a_HierarchicalReferences a_HasChild a_Organizes a_Aggregates a_HasSubtype a_HasProperty a_HasComponent a_NonHierarchicalReferences a_HasTypeDefinition ((p1 &&& (2147483647 : Int32)) % (10 : Int32))) ∨ a_References = (own_pick a_References a_HierarchicalReferences a_HasChild a_Organizes a_Aggregates a_HasSubtype a_HasProperty a_HasComponent a_NonHierarchicalReferences a_HasTypeDefinition ((p1 &&& (2147483647 : Int32)) % (10 : Int32)))) = own_b (¬ ((((own_anc ((p0 &&& (2147483647 : Int32)) % (10 : Int32))) >>> (((p1 &&& (2147483647 : Int32)) % (10 : Int32)) &&& 31)) &&& (1 : Int32)) = (0 : Int32))) := by
      rw [hk]
      exact own_sub_6 a_References a_HierarchicalReferences a_HasChild a_Organizes a_Aggregates a_HasSubtype a_HasProperty a_HasComponent a_NonHierarchicalReferences a_HasTypeDefinition hd ((p1 &&& (2147483647 : Int32)) % (10 : Int32)) (own_ten p1)
    obtain ⟨cq318, kq318, q318a, q318b, q318c⟩ := isOf hZ e291 E_a_HasProperty
    obtain ⟨_, _, ⟨T318, L318, k318, n318⟩, -, X318, ⟨Lc318, hQ318, l318, y318, z318⟩, st318⟩ := X291.virtualBack hx (y := (⟨"com/example/halyard/halyard/server/ReferenceType", "isSubtypeOf", "(Lcom/example/halyard/halyard/server/ReferenceType;)Z"⟩ : MethodName)) (z := (⟨"com/example/halyard/halyard/server/ReferenceType", "isSubtypeOf", "(Lcom/example/halyard/halyard/server/ReferenceType;)Z"⟩ : MethodName)) hown (mvT hZ (hw _ (List.mem_of_getElem? (i := 13) rfl))) (mvT hZ (hw _ (List.mem_of_getElem? (i := 14) rfl))) (notFace_of_selects (args := #[]) (mvT hZ (hw _ (List.mem_of_getElem? (i := 16) rfl)))) (mvT hZ (hw _ (List.mem_of_getElem? (i := 16) rfl))) (mvT hZ (hw _ (List.mem_of_getElem? (i := 15) rfl))) (by decide) (backOf (W := 0) (rm3_6 l Z a0 hw [] a_HasProperty a_Aggregates a_HasChild a_HierarchicalReferences a_References (own_pick a_References a_HierarchicalReferences a_HasChild a_Organizes a_Aggregates a_HasSubtype a_HasProperty a_HasComponent a_NonHierarchicalReferences a_HasTypeDefinition ((p1 &&& (2147483647 : Int32)) % (10 : Int32))) h0 n0 Z0 F_a_HasProperty_supertype F_a_Aggregates_supertype F_a_HasChild_supertype F_a_HierarchicalReferences_supertype F_a_References_supertype) hZ (hw _ (List.mem_of_getElem? (i := 17) rfl)) (hw _ (List.mem_of_getElem? (i := 9) rfl)) (by decide) (by decide)) q318a q318c (g := (mkF m 42 #[.val (.int p0), .val (.int p1), .val (.int ((p0 &&& (2147483647 : Int32)) % (10 : Int32))), .val (.int ((p1 &&& (2147483647 : Int32)) % (10 : Int32))), .val (.int (own_b (¬ ((((own_anc ((p0 &&& (2147483647 : Int32)) % (10 : Int32))) >>> (((p1 &&& (2147483647 : Int32)) % (10 : Int32)) &&& 31)) &&& (1 : Int32)) = (0 : Int32))))), .unset] [(.ref (own_pick a_References a_HierarchicalReferences a_HasChild a_Organizes a_Aggregates a_HasSubtype a_HasProperty a_HasComponent a_NonHierarchicalReferences a_HasTypeDefinition ((p1 &&& (2147483647 : Int32)) % (10 : Int32)))), (.ref a_HasProperty)])) rfl (by rw [hml]; rfl) (Steps.refl _) (argsL := [(.ref (own_pick a_References a_HierarchicalReferences a_HasChild a_Organizes a_Aggregates a_HasSubtype a_HasProperty a_HasComponent a_NonHierarchicalReferences a_HasTypeDefinition ((p1 &&& (2147483647 : Int32)) % (10 : Int32))))]) (rest := []) (lenOf pd_2 rfl) rfl (by show 2 * 0 + _ ≤ _; exact Nat.le_of_eq rfl) (hb hby at_42) (fun _ _ => ⟨rfl, e291, (by decide : 0 + 0 ≤ _), (by decide : 0 + 0 ≤ _)⟩)
    dsimp only [Pt.U, Pt.locs, Pt.cells, Pt.slots] at X318 l318 y318 z318 st318 hQ318
    subst l318 y318 z318
    obtain ⟨rfl, N318q, e318⟩ := hQ318
    have N318 := Fr.app N291 N318q
    have G319 : Go p e below A0 (T318.setTop (mkF m 45 #[.val (.int p0), .val (.int p1), .val (.int ((p0 &&& (2147483647 : Int32)) % (10 : Int32))), .val (.int ((p1 &&& (2147483647 : Int32)) % (10 : Int32))), .val (.int (own_b (¬ ((((own_anc ((p0 &&& (2147483647 : Int32)) % (10 : Int32))) >>> (((p1 &&& (2147483647 : Int32)) % (10 : Int32)) &&& 31)) &&& (1 : Int32)) = (0 : Int32))))), .unset] [(.int (own_b (a_HasProperty = (own_pick a_References a_HierarchicalReferences a_HasChild a_Organizes a_Aggregates a_HasSubtype a_HasProperty a_HasComponent a_NonHierarchicalReferences a_HasTypeDefinition ((p1 &&& (2147483647 : Int32)) % (10 : Int32))) ∨ a_Aggregates = (own_pick a_References a_HierarchicalReferences a_HasChild a_Organizes a_Aggregates a_HasSubtype a_HasProperty a_HasComponent a_NonHierarchicalReferences a_HasTypeDefinition ((p1 &&& (2147483647 : Int32)) % (10 : Int32))) ∨ a_HasChild = (own_pick a_References a_HierarchicalReferences a_HasChild a_Organizes a_Aggregates a_HasSubtype a_HasProperty a_HasComponent a_NonHierarchicalReferences a_HasTypeDefinition ((p1 &&& (2147483647 : Int32)) % (10 : Int32))) ∨ a_HierarchicalReferences = (own_pick a_References a_HierarchicalReferences a_HasChild a_Organizes a_Aggregates a_HasSubtype a_HasProperty a_HasComponent a_NonHierarchicalReferences a_HasTypeDefinition ((p1 &&& (2147483647 : Int32)) % (10 : Int32))) ∨ a_References = (own_pick a_References a_HierarchicalReferences a_HasChild a_Organizes a_Aggregates a_HasSubtype a_HasProperty a_HasComponent a_NonHierarchicalReferences a_HasTypeDefinition ((p1 &&& (2147483647 : Int32)) % (10 : Int32))))))])) := fun tq kq => G317 tq (st318.trans kq)
    have G320 : Go p e below A0 (T318.setTop (mkF m 59 #[.val (.int p0), .val (.int p1), .val (.int ((p0 &&& (2147483647 : Int32)) % (10 : Int32))), .val (.int ((p1 &&& (2147483647 : Int32)) % (10 : Int32))), .val (.int (own_b (¬ ((((own_anc ((p0 &&& (2147483647 : Int32)) % (10 : Int32))) >>> (((p1 &&& (2147483647 : Int32)) % (10 : Int32)) &&& 31)) &&& (1 : Int32)) = (0 : Int32))))), .val (.int (own_b (a_HasProperty = (own_pick a_References a_HierarchicalReferences a_HasChild a_Organizes a_Aggregates a_HasSubtype a_HasProperty a_HasComponent a_NonHierarchicalReferences a_HasTypeDefinition ((p1 &&& (2147483647 : Int32)) % (10 : Int32))) ∨ a_Aggregates = (own_pick a_References a_HierarchicalReferences a_HasChild a_Organizes a_Aggregates a_HasSubtype a_HasProperty a_HasComponent a_NonHierarchicalReferences a_HasTypeDefinition ((p1 &&& (2147483647 : Int32)) % (10 : Int32))) ∨ a_HasChild = (own_pick a_References a_HierarchicalReferences a_HasChild a_Organizes a_Aggregates a_HasSubtype a_HasProperty a_HasComponent a_NonHierarchicalReferences a_HasTypeDefinition ((p1 &&& (2147483647 : Int32)) % (10 : Int32))) ∨ a_HierarchicalReferences = (own_pick a_References a_HierarchicalReferences a_HasChild a_Organizes a_Aggregates a_HasSubtype a_HasProperty a_HasComponent a_NonHierarchicalReferences a_HasTypeDefinition ((p1 &&& (2147483647 : Int32)) % (10 : Int32))) ∨ a_References = (own_pick a_References a_HierarchicalReferences a_HasChild a_Organizes a_Aggregates a_HasSubtype a_HasProperty a_HasComponent a_NonHierarchicalReferences a_HasTypeDefinition ((p1 &&& (2147483647 : Int32)) % (10 : Int32))))))] [(.int (1 : Int32))])) := fun tq kq => G319 tq (by
      refine XS.istore X318.here hx rfl (hb hby at_45) rfl (l' := #[.val (.int p0), .val (.int p1), .val (.int ((p0 &&& (2147483647 : Int32)) % (10 : Int32))), .val (.int ((p1 &&& (2147483647 : Int32)) % (10 : Int32))), .val (.int (own_b (¬ ((((own_anc ((p0 &&& (2147483647 : Int32)) % (10 : Int32))) >>> (((p1 &&& (2147483647 : Int32)) % (10 : Int32)) &&& 31)) &&& (1 : Int32)) = (0 : Int32))))), .val (.int (own_b (a_HasProperty = (own_pick a_References a_HierarchicalReferences a_HasChild a_Organizes a_Aggregates a_HasSubtype a_HasProperty a_HasComponent a_NonHierarchicalReferences a_HasTypeDefinition ((p1 &&& (2147483647 : Int32)) % (10 : Int32))) ∨ a_Aggregates = (own_pick a_References a_HierarchicalReferences a_HasChild a_Organizes a_Aggregates a_HasSubtype a_HasProperty a_HasComponent a_NonHierarchicalReferences a_HasTypeDefinition ((p1 &&& (2147483647 : Int32)) % (10 : Int32))) ∨ a_HasChild = (own_pick a_References a_HierarchicalReferences a_HasChild a_Organizes a_Aggregates a_HasSubtype a_HasProperty a_HasComponent a_NonHierarchicalReferences a_HasTypeDefinition ((p1 &&& (2147483647 : Int32)) % (10 : Int32))) ∨ a_HierarchicalReferences = (own_pick a_References a_HierarchicalReferences a_HasChild a_Organizes a_Aggregates a_HasSubtype a_HasProperty a_HasComponent a_NonHierarchicalReferences a_HasTypeDefinition ((p1 &&& (2147483647 : Int32)) % (10 : Int32))) ∨ a_References = (own_pick a_References a_HierarchicalReferences a_HasChild a_Organizes a_Aggregates a_HasSubtype a_HasProperty a_HasComponent a_NonHierarchicalReferences a_HasTypeDefinition ((p1 &&& (2147483647 : Int32)) % (10 : Int32))))))]) rfl ?_
      show Steps p.tables e below (T318.setTop (mkF m 47 #[.val (.int p0), .val (.int p1), .val (.int ((p0 &&& (2147483647 : Int32)) % (10 : Int32))), .val (.int ((p1 &&& (2147483647 : Int32)) % (10 : Int32))), .val (.int (own_b (¬ ((((own_anc ((p0 &&& (2147483647 : Int32)) % (10 : Int32))) >>> (((p1 &&& (2147483647 : Int32)) % (10 : Int32)) &&& 31)) &&& (1 : Int32)) = (0 : Int32))))), .val (.int (own_b (a_HasProperty = (own_pick a_References a_HierarchicalReferences a_HasChild a_Organizes a_Aggregates a_HasSubtype a_HasProperty a_HasComponent a_NonHierarchicalReferences a_HasTypeDefinition ((p1 &&& (2147483647 : Int32)) % (10 : Int32))) ∨ a_Aggregates = (own_pick a_References a_HierarchicalReferences a_HasChild a_Organizes a_Aggregates a_HasSubtype a_HasProperty a_HasComponent a_NonHierarchicalReferences a_HasTypeDefinition ((p1 &&& (2147483647 : Int32)) % (10 : Int32))) ∨ a_HasChild = (own_pick a_References a_HierarchicalReferences a_HasChild a_Organizes a_Aggregates a_HasSubtype a_HasProperty a_HasComponent a_NonHierarchicalReferences a_HasTypeDefinition ((p1 &&& (2147483647 : Int32)) % (10 : Int32))) ∨ a_HierarchicalReferences = (own_pick a_References a_HierarchicalReferences a_HasChild a_Organizes a_Aggregates a_HasSubtype a_HasProperty a_HasComponent a_NonHierarchicalReferences a_HasTypeDefinition ((p1 &&& (2147483647 : Int32)) % (10 : Int32))) ∨ a_References = (own_pick a_References a_HierarchicalReferences a_HasChild a_Organizes a_Aggregates a_HasSubtype a_HasProperty a_HasComponent a_NonHierarchicalReferences a_HasTypeDefinition ((p1 &&& (2147483647 : Int32)) % (10 : Int32))))))] [])) _
      refine XS.iload X318.here hx rfl (hb hby at_47) rfl ?_
      show Steps p.tables e below (T318.setTop (mkF m 49 #[.val (.int p0), .val (.int p1), .val (.int ((p0 &&& (2147483647 : Int32)) % (10 : Int32))), .val (.int ((p1 &&& (2147483647 : Int32)) % (10 : Int32))), .val (.int (own_b (¬ ((((own_anc ((p0 &&& (2147483647 : Int32)) % (10 : Int32))) >>> (((p1 &&& (2147483647 : Int32)) % (10 : Int32)) &&& 31)) &&& (1 : Int32)) = (0 : Int32))))), .val (.int (own_b (a_HasProperty = (own_pick a_References a_HierarchicalReferences a_HasChild a_Organizes a_Aggregates a_HasSubtype a_HasProperty a_HasComponent a_NonHierarchicalReferences a_HasTypeDefinition ((p1 &&& (2147483647 : Int32)) % (10 : Int32))) ∨ a_Aggregates = (own_pick a_References a_HierarchicalReferences a_HasChild a_Organizes a_Aggregates a_HasSubtype a_HasProperty a_HasComponent a_NonHierarchicalReferences a_HasTypeDefinition ((p1 &&& (2147483647 : Int32)) % (10 : Int32))) ∨ a_HasChild = (own_pick a_References a_HierarchicalReferences a_HasChild a_Organizes a_Aggregates a_HasSubtype a_HasProperty a_HasComponent a_NonHierarchicalReferences a_HasTypeDefinition ((p1 &&& (2147483647 : Int32)) % (10 : Int32))) ∨ a_HierarchicalReferences = (own_pick a_References a_HierarchicalReferences a_HasChild a_Organizes a_Aggregates a_HasSubtype a_HasProperty a_HasComponent a_NonHierarchicalReferences a_HasTypeDefinition ((p1 &&& (2147483647 : Int32)) % (10 : Int32))) ∨ a_References = (own_pick a_References a_HierarchicalReferences a_HasChild a_Organizes a_Aggregates a_HasSubtype a_HasProperty a_HasComponent a_NonHierarchicalReferences a_HasTypeDefinition ((p1 &&& (2147483647 : Int32)) % (10 : Int32))))))] [(.int (own_b (a_HasProperty = (own_pick a_References a_HierarchicalReferences a_HasChild a_Organizes a_Aggregates a_HasSubtype a_HasProperty a_HasComponent a_NonHierarchicalReferences a_HasTypeDefinition ((p1 &&& (2147483647 : Int32)) % (10 : Int32))) ∨ a_Aggregates = (own_pick a_References a_HierarchicalReferences a_HasChild a_Organizes a_Aggregates a_HasSubtype a_HasProperty a_HasComponent a_NonHierarchicalReferences a_HasTypeDefinition ((p1 &&& (2147483647 : Int32)) % (10 : Int32))) ∨ a_HasChild = (own_pick a_References a_HierarchicalReferences a_HasChild a_Organizes a_Aggregates a_HasSubtype a_HasProperty a_HasComponent a_NonHierarchicalReferences a_HasTypeDefinition ((p1 &&& (2147483647 : Int32)) % (10 : Int32))) ∨ a_HierarchicalReferences = (own_pick a_References a_HierarchicalReferences a_HasChild a_Organizes a_Aggregates a_HasSubtype a_HasProperty a_HasComponent a_NonHierarchicalReferences a_HasTypeDefinition ((p1 &&& (2147483647 : Int32)) % (10 : Int32))) ∨ a_References = (own_pick a_References a_HierarchicalReferences a_HasChild a_Organizes a_Aggregates a_HasSubtype a_HasProperty a_HasComponent a_NonHierarchicalReferences a_HasTypeDefinition ((p1 &&& (2147483647 : Int32)) % (10 : Int32))))))])) _
      refine XS.iload X318.here hx rfl (hb hby at_49) rfl ?_
      show Steps p.tables e below (T318.setTop (mkF m 51 #[.val (.int p0), .val (.int p1), .val (.int ((p0 &&& (2147483647 : Int32)) % (10 : Int32))), .val (.int ((p1 &&& (2147483647 : Int32)) % (10 : Int32))), .val (.int (own_b (¬ ((((own_anc ((p0 &&& (2147483647 : Int32)) % (10 : Int32))) >>> (((p1 &&& (2147483647 : Int32)) % (10 : Int32)) &&& 31)) &&& (1 : Int32)) = (0 : Int32))))), .val (.int (own_b (a_HasProperty = (own_pick a_References a_HierarchicalReferences a_HasChild a_Organizes a_Aggregates a_HasSubtype a_HasProperty a_HasComponent a_NonHierarchicalReferences a_HasTypeDefinition ((p1 &&& (2147483647 : Int32)) % (10 : Int32))) ∨ a_Aggregates = (own_pick a_References a_HierarchicalReferences a_HasChild a_Organizes a_Aggregates a_HasSubtype a_HasProperty a_HasComponent a_NonHierarchicalReferences a_HasTypeDefinition ((p1 &&& (2147483647 : Int32)) % (10 : Int32))) ∨ a_HasChild = (own_pick a_References a_HierarchicalReferences a_HasChild a_Organizes a_Aggregates a_HasSubtype a_HasProperty a_HasComponent a_NonHierarchicalReferences a_HasTypeDefinition ((p1 &&& (2147483647 : Int32)) % (10 : Int32))) ∨ a_HierarchicalReferences = (own_pick a_References a_HierarchicalReferences a_HasChild a_Organizes a_Aggregates a_HasSubtype a_HasProperty a_HasComponent a_NonHierarchicalReferences a_HasTypeDefinition ((p1 &&& (2147483647 : Int32)) % (10 : Int32))) ∨ a_References = (own_pick a_References a_HierarchicalReferences a_HasChild a_Organizes a_Aggregates a_HasSubtype a_HasProperty a_HasComponent a_NonHierarchicalReferences a_HasTypeDefinition ((p1 &&& (2147483647 : Int32)) % (10 : Int32))))))] [(.int (own_b (¬ ((((own_anc ((p0 &&& (2147483647 : Int32)) % (10 : Int32))) >>> (((p1 &&& (2147483647 : Int32)) % (10 : Int32)) &&& 31)) &&& (1 : Int32)) = (0 : Int32))))), (.int (own_b (a_HasProperty = (own_pick a_References a_HierarchicalReferences a_HasChild a_Organizes a_Aggregates a_HasSubtype a_HasProperty a_HasComponent a_NonHierarchicalReferences a_HasTypeDefinition ((p1 &&& (2147483647 : Int32)) % (10 : Int32))) ∨ a_Aggregates = (own_pick a_References a_HierarchicalReferences a_HasChild a_Organizes a_Aggregates a_HasSubtype a_HasProperty a_HasComponent a_NonHierarchicalReferences a_HasTypeDefinition ((p1 &&& (2147483647 : Int32)) % (10 : Int32))) ∨ a_HasChild = (own_pick a_References a_HierarchicalReferences a_HasChild a_Organizes a_Aggregates a_HasSubtype a_HasProperty a_HasComponent a_NonHierarchicalReferences a_HasTypeDefinition ((p1 &&& (2147483647 : Int32)) % (10 : Int32))) ∨ a_HierarchicalReferences = (own_pick a_References a_HierarchicalReferences a_HasChild a_Organizes a_Aggregates a_HasSubtype a_HasProperty a_HasComponent a_NonHierarchicalReferences a_HasTypeDefinition ((p1 &&& (2147483647 : Int32)) % (10 : Int32))) ∨ a_References = (own_pick a_References a_HierarchicalReferences a_HasChild a_Organizes a_Aggregates a_HasSubtype a_HasProperty a_HasComponent a_NonHierarchicalReferences a_HasTypeDefinition ((p1 &&& (2147483647 : Int32)) % (10 : Int32))))))])) _
      refine XS.icmpNo X318.here hx rfl (hb hby at_51) rfl (teq hfin).2 ?_
      show Steps p.tables e below (T318.setTop (mkF m 54 #[.val (.int p0), .val (.int p1), .val (.int ((p0 &&& (2147483647 : Int32)) % (10 : Int32))), .val (.int ((p1 &&& (2147483647 : Int32)) % (10 : Int32))), .val (.int (own_b (¬ ((((own_anc ((p0 &&& (2147483647 : Int32)) % (10 : Int32))) >>> (((p1 &&& (2147483647 : Int32)) % (10 : Int32)) &&& 31)) &&& (1 : Int32)) = (0 : Int32))))), .val (.int (own_b (a_HasProperty = (own_pick a_References a_HierarchicalReferences a_HasChild a_Organizes a_Aggregates a_HasSubtype a_HasProperty a_HasComponent a_NonHierarchicalReferences a_HasTypeDefinition ((p1 &&& (2147483647 : Int32)) % (10 : Int32))) ∨ a_Aggregates = (own_pick a_References a_HierarchicalReferences a_HasChild a_Organizes a_Aggregates a_HasSubtype a_HasProperty a_HasComponent a_NonHierarchicalReferences a_HasTypeDefinition ((p1 &&& (2147483647 : Int32)) % (10 : Int32))) ∨ a_HasChild = (own_pick a_References a_HierarchicalReferences a_HasChild a_Organizes a_Aggregates a_HasSubtype a_HasProperty a_HasComponent a_NonHierarchicalReferences a_HasTypeDefinition ((p1 &&& (2147483647 : Int32)) % (10 : Int32))) ∨ a_HierarchicalReferences = (own_pick a_References a_HierarchicalReferences a_HasChild a_Organizes a_Aggregates a_HasSubtype a_HasProperty a_HasComponent a_NonHierarchicalReferences a_HasTypeDefinition ((p1 &&& (2147483647 : Int32)) % (10 : Int32))) ∨ a_References = (own_pick a_References a_HierarchicalReferences a_HasChild a_Organizes a_Aggregates a_HasSubtype a_HasProperty a_HasComponent a_NonHierarchicalReferences a_HasTypeDefinition ((p1 &&& (2147483647 : Int32)) % (10 : Int32))))))] [])) _
      refine XS.iconst X318.here hx rfl (hb hby at_54) ?_
      show Steps p.tables e below (T318.setTop (mkF m 55 #[.val (.int p0), .val (.int p1), .val (.int ((p0 &&& (2147483647 : Int32)) % (10 : Int32))), .val (.int ((p1 &&& (2147483647 : Int32)) % (10 : Int32))), .val (.int (own_b (¬ ((((own_anc ((p0 &&& (2147483647 : Int32)) % (10 : Int32))) >>> (((p1 &&& (2147483647 : Int32)) % (10 : Int32)) &&& 31)) &&& (1 : Int32)) = (0 : Int32))))), .val (.int (own_b (a_HasProperty = (own_pick a_References a_HierarchicalReferences a_HasChild a_Organizes a_Aggregates a_HasSubtype a_HasProperty a_HasComponent a_NonHierarchicalReferences a_HasTypeDefinition ((p1 &&& (2147483647 : Int32)) % (10 : Int32))) ∨ a_Aggregates = (own_pick a_References a_HierarchicalReferences a_HasChild a_Organizes a_Aggregates a_HasSubtype a_HasProperty a_HasComponent a_NonHierarchicalReferences a_HasTypeDefinition ((p1 &&& (2147483647 : Int32)) % (10 : Int32))) ∨ a_HasChild = (own_pick a_References a_HierarchicalReferences a_HasChild a_Organizes a_Aggregates a_HasSubtype a_HasProperty a_HasComponent a_NonHierarchicalReferences a_HasTypeDefinition ((p1 &&& (2147483647 : Int32)) % (10 : Int32))) ∨ a_HierarchicalReferences = (own_pick a_References a_HierarchicalReferences a_HasChild a_Organizes a_Aggregates a_HasSubtype a_HasProperty a_HasComponent a_NonHierarchicalReferences a_HasTypeDefinition ((p1 &&& (2147483647 : Int32)) % (10 : Int32))) ∨ a_References = (own_pick a_References a_HierarchicalReferences a_HasChild a_Organizes a_Aggregates a_HasSubtype a_HasProperty a_HasComponent a_NonHierarchicalReferences a_HasTypeDefinition ((p1 &&& (2147483647 : Int32)) % (10 : Int32))))))] [(.int (1 : Int32))])) _
      refine XS.goto X318.here hx rfl (pc0 := 55) (pc' := 59) rfl (hb hby at_55) (by decide) (by decide) ?_
      show Steps p.tables e below (T318.setTop (mkF m 59 #[.val (.int p0), .val (.int p1), .val (.int ((p0 &&& (2147483647 : Int32)) % (10 : Int32))), .val (.int ((p1 &&& (2147483647 : Int32)) % (10 : Int32))), .val (.int (own_b (¬ ((((own_anc ((p0 &&& (2147483647 : Int32)) % (10 : Int32))) >>> (((p1 &&& (2147483647 : Int32)) % (10 : Int32)) &&& 31)) &&& (1 : Int32)) = (0 : Int32))))), .val (.int (own_b (a_HasProperty = (own_pick a_References a_HierarchicalReferences a_HasChild a_Organizes a_Aggregates a_HasSubtype a_HasProperty a_HasComponent a_NonHierarchicalReferences a_HasTypeDefinition ((p1 &&& (2147483647 : Int32)) % (10 : Int32))) ∨ a_Aggregates = (own_pick a_References a_HierarchicalReferences a_HasChild a_Organizes a_Aggregates a_HasSubtype a_HasProperty a_HasComponent a_NonHierarchicalReferences a_HasTypeDefinition ((p1 &&& (2147483647 : Int32)) % (10 : Int32))) ∨ a_HasChild = (own_pick a_References a_HierarchicalReferences a_HasChild a_Organizes a_Aggregates a_HasSubtype a_HasProperty a_HasComponent a_NonHierarchicalReferences a_HasTypeDefinition ((p1 &&& (2147483647 : Int32)) % (10 : Int32))) ∨ a_HierarchicalReferences = (own_pick a_References a_HierarchicalReferences a_HasChild a_Organizes a_Aggregates a_HasSubtype a_HasProperty a_HasComponent a_NonHierarchicalReferences a_HasTypeDefinition ((p1 &&& (2147483647 : Int32)) % (10 : Int32))) ∨ a_References = (own_pick a_References a_HierarchicalReferences a_HasChild a_Organizes a_Aggregates a_HasSubtype a_HasProperty a_HasComponent a_NonHierarchicalReferences a_HasTypeDefinition ((p1 &&& (2147483647 : Int32)) % (10 : Int32))))))] [(.int (1 : Int32))])) _
      exact kq)
    obtain ⟨fs, hr, hrun, hended, hW, hsame⟩ := X318.leave (v := some (.int (nar .boolean (1 : Int32)))) (fun h => by rw [Bd.returns] at h; cases h)
    refine ⟨_, _, (by rw [← hA0]; exact G320 _ (retN X318 hx (t := .boolean) Bd.returns (by simp) (hb hby at_59) hr)), hrun, hended, _, _, rfl, ?_, ⟨_, rfl⟩, hW, hsame.mono (by decide) (by decide)⟩
    exact ⟨rfl, N318⟩
  · have G321 : Go p e below A0 (T291.setTop (mkF m 42 #[.val (.int p0), .val (.int p1), .val (.int ((p0 &&& (2147483647 : Int32)) % (10 : Int32))), .val (.int ((p1 &&& (2147483647 : Int32)) % (10 : Int32))), .val (.int (own_b (¬ ((((own_anc ((p0 &&& (2147483647 : Int32)) % (10 : Int32))) >>> (((p1 &&& (2147483647 : Int32)) % (10 : Int32)) &&& 31)) &&& (1 : Int32)) = (0 : Int32))))), .unset] [(.ref (own_pick a_References a_HierarchicalReferences a_HasChild a_Organizes a_Aggregates a_HasSubtype a_HasProperty a_HasComponent a_NonHierarchicalReferences a_HasTypeDefinition ((p1 &&& (2147483647 : Int32)) % (10 : Int32)))), (.ref a_HasComponent)])) := by
      have q : own_pick a_References a_HierarchicalReferences a_HasChild a_Organizes a_Aggregates a_HasSubtype a_HasProperty a_HasComponent a_NonHierarchicalReferences a_HasTypeDefinition ((p0 &&& (2147483647 : Int32)) % (10 : Int32)) = a_HasComponent := by rw [hk]; rfl
      have q2 := G292
      rw [q] at q2
      exact q2
    have hfin : own_b (a_HasComponent = (own_pick a_References a_HierarchicalReferences a_HasChild a_Organizes a_Aggregates a_HasSubtype a_HasProperty a_HasComponent a_NonHierarchicalReferences a_HasTypeDefinition ((p1 &&& (2147483647 : Int32)) % (10 : Int32))) ∨ a_Aggregates = (own_pick a_References a_HierarchicalReferences a_HasChild a_Organizes a_Aggregates a_HasSubtype a_HasProperty a_HasComponent a_NonHierarchicalReferences a_HasTypeDefinition ((p1 &&& (2147483647 : Int32)) % (10 : Int32))) ∨ a_HasChild = (own_pick a_References a_HierarchicalReferences a_HasChild a_Organizes a_Aggregates a_HasSubtype a_HasProperty a_HasComponent a_NonHierarchicalReferences a_HasTypeDefinition ((p1 &&& (2147483647 : Int32)) % (10 : Int32))) ∨ a_HierarchicalReferences = (own_pick a_References a_HierarchicalReferences a_HasChild a_Organizes a_Aggregates a_HasSubtype a_HasProperty a_HasComponent a_NonHierarchicalReferences a_HasTypeDefinition ((p1 &&& (2147483647 : Int32)) % (10 : Int32))) ∨ a_References = (own_pick a_References a_HierarchicalReferences a_HasChild a_Organizes a_Aggregates a_HasSubtype a_HasProperty a_HasComponent a_NonHierarchicalReferences a_HasTypeDefinition ((p1 &&& (2147483647 : Int32)) % (10 : Int32)))) = own_b (¬ ((((own_anc ((p0 &&& (2147483647 : Int32)) % (10 : Int32))) >>> (((p1 &&& (2147483647 : Int32)) % (10 : Int32)) &&& 31)) &&& (1 : Int32)) = (0 : Int32))) := by
      rw [hk]
      exact own_sub_7 a_References a_HierarchicalReferences a_HasChild a_Organizes a_Aggregates a_HasSubtype a_HasProperty a_HasComponent a_NonHierarchicalReferences a_HasTypeDefinition hd ((p1 &&& (2147483647 : Int32)) % (10 : Int32)) (own_ten p1)
    obtain ⟨cq322, kq322, q322a, q322b, q322c⟩ := isOf hZ e291 E_a_HasComponent
    obtain ⟨_, _, ⟨T322, L322, k322, n322⟩, -, X322, ⟨Lc322, hQ322, l322, y322, z322⟩, st322⟩ := X291.virtualBack hx (y := (⟨"com/example/halyard/halyard/server/ReferenceType", "isSubtypeOf", "(Lcom/example/halyard/halyard/server/ReferenceType;)Z"⟩ : MethodName)) (z := (⟨"com/example/halyard/halyard/server/ReferenceType", "isSubtypeOf", "(Lcom/example/halyard/halyard/server/ReferenceType;)Z"⟩ : MethodName)) hown (mvT hZ (hw _ (List.mem_of_getElem? (i := 13) rfl))) (mvT hZ (hw _ (List.mem_of_getElem? (i := 14) rfl))) (notFace_of_selects (args := #[]) (mvT hZ (hw _ (List.mem_of_getElem? (i := 16) rfl)))) (mvT hZ (hw _ (List.mem_of_getElem? (i := 16) rfl))) (mvT hZ (hw _ (List.mem_of_getElem? (i := 15) rfl))) (by decide) (backOf (W := 0) (rm3_7 l Z a0 hw [] a_HasComponent a_Aggregates a_HasChild a_HierarchicalReferences a_References (own_pick a_References a_HierarchicalReferences a_HasChild a_Organizes a_Aggregates a_HasSubtype a_HasProperty a_HasComponent a_NonHierarchicalReferences a_HasTypeDefinition ((p1 &&& (2147483647 : Int32)) % (10 : Int32))) h0 n0 Z0 F_a_HasComponent_supertype F_a_Aggregates_supertype F_a_HasChild_supertype F_a_HierarchicalReferences_supertype F_a_References_supertype) hZ (hw _ (List.mem_of_getElem? (i := 17) rfl)) (hw _ (List.mem_of_getElem? (i := 9) rfl)) (by decide) (by decide)) q322a q322c (g := (mkF m 42 #[.val (.int p0), .val (.int p1), .val (.int ((p0 &&& (2147483647 : Int32)) % (10 : Int32))), .val (.int ((p1 &&& (2147483647 : Int32)) % (10 : Int32))), .val (.int (own_b (¬ ((((own_anc ((p0 &&& (2147483647 : Int32)) % (10 : Int32))) >>> (((p1 &&& (2147483647 : Int32)) % (10 : Int32)) &&& 31)) &&& (1 : Int32)) = (0 : Int32))))), .unset] [(.ref (own_pick a_References a_HierarchicalReferences a_HasChild a_Organizes a_Aggregates a_HasSubtype a_HasProperty a_HasComponent a_NonHierarchicalReferences a_HasTypeDefinition ((p1 &&& (2147483647 : Int32)) % (10 : Int32)))), (.ref a_HasComponent)])) rfl (by rw [hml]; rfl) (Steps.refl _) (argsL := [(.ref (own_pick a_References a_HierarchicalReferences a_HasChild a_Organizes a_Aggregates a_HasSubtype a_HasProperty a_HasComponent a_NonHierarchicalReferences a_HasTypeDefinition ((p1 &&& (2147483647 : Int32)) % (10 : Int32))))]) (rest := []) (lenOf pd_2 rfl) rfl (by show 2 * 0 + _ ≤ _; exact Nat.le_of_eq rfl) (hb hby at_42) (fun _ _ => ⟨rfl, e291, (by decide : 0 + 0 ≤ _), (by decide : 0 + 0 ≤ _)⟩)
    dsimp only [Pt.U, Pt.locs, Pt.cells, Pt.slots] at X322 l322 y322 z322 st322 hQ322
    subst l322 y322 z322
    obtain ⟨rfl, N322q, e322⟩ := hQ322
    have N322 := Fr.app N291 N322q
    have G323 : Go p e below A0 (T322.setTop (mkF m 45 #[.val (.int p0), .val (.int p1), .val (.int ((p0 &&& (2147483647 : Int32)) % (10 : Int32))), .val (.int ((p1 &&& (2147483647 : Int32)) % (10 : Int32))), .val (.int (own_b (¬ ((((own_anc ((p0 &&& (2147483647 : Int32)) % (10 : Int32))) >>> (((p1 &&& (2147483647 : Int32)) % (10 : Int32)) &&& 31)) &&& (1 : Int32)) = (0 : Int32))))), .unset] [(.int (own_b (a_HasComponent = (own_pick a_References a_HierarchicalReferences a_HasChild a_Organizes a_Aggregates a_HasSubtype a_HasProperty a_HasComponent a_NonHierarchicalReferences a_HasTypeDefinition ((p1 &&& (2147483647 : Int32)) % (10 : Int32))) ∨ a_Aggregates = (own_pick a_References a_HierarchicalReferences a_HasChild a_Organizes a_Aggregates a_HasSubtype a_HasProperty a_HasComponent a_NonHierarchicalReferences a_HasTypeDefinition ((p1 &&& (2147483647 : Int32)) % (10 : Int32))) ∨ a_HasChild = (own_pick a_References a_HierarchicalReferences a_HasChild a_Organizes a_Aggregates a_HasSubtype a_HasProperty a_HasComponent a_NonHierarchicalReferences a_HasTypeDefinition ((p1 &&& (2147483647 : Int32)) % (10 : Int32))) ∨ a_HierarchicalReferences = (own_pick a_References a_HierarchicalReferences a_HasChild a_Organizes a_Aggregates a_HasSubtype a_HasProperty a_HasComponent a_NonHierarchicalReferences a_HasTypeDefinition ((p1 &&& (2147483647 : Int32)) % (10 : Int32))) ∨ a_References = (own_pick a_References a_HierarchicalReferences a_HasChild a_Organizes a_Aggregates a_HasSubtype a_HasProperty a_HasComponent a_NonHierarchicalReferences a_HasTypeDefinition ((p1 &&& (2147483647 : Int32)) % (10 : Int32))))))])) := fun tq kq => G321 tq (st322.trans kq)
    have G324 : Go p e below A0 (T322.setTop (mkF m 59 #[.val (.int p0), .val (.int p1), .val (.int ((p0 &&& (2147483647 : Int32)) % (10 : Int32))), .val (.int ((p1 &&& (2147483647 : Int32)) % (10 : Int32))), .val (.int (own_b (¬ ((((own_anc ((p0 &&& (2147483647 : Int32)) % (10 : Int32))) >>> (((p1 &&& (2147483647 : Int32)) % (10 : Int32)) &&& 31)) &&& (1 : Int32)) = (0 : Int32))))), .val (.int (own_b (a_HasComponent = (own_pick a_References a_HierarchicalReferences a_HasChild a_Organizes a_Aggregates a_HasSubtype a_HasProperty a_HasComponent a_NonHierarchicalReferences a_HasTypeDefinition ((p1 &&& (2147483647 : Int32)) % (10 : Int32))) ∨ a_Aggregates = (own_pick a_References a_HierarchicalReferences a_HasChild a_Organizes a_Aggregates a_HasSubtype a_HasProperty a_HasComponent a_NonHierarchicalReferences a_HasTypeDefinition ((p1 &&& (2147483647 : Int32)) % (10 : Int32))) ∨ a_HasChild = (own_pick a_References a_HierarchicalReferences a_HasChild a_Organizes a_Aggregates a_HasSubtype a_HasProperty a_HasComponent a_NonHierarchicalReferences a_HasTypeDefinition ((p1 &&& (2147483647 : Int32)) % (10 : Int32))) ∨ a_HierarchicalReferences = (own_pick a_References a_HierarchicalReferences a_HasChild a_Organizes a_Aggregates a_HasSubtype a_HasProperty a_HasComponent a_NonHierarchicalReferences a_HasTypeDefinition ((p1 &&& (2147483647 : Int32)) % (10 : Int32))) ∨ a_References = (own_pick a_References a_HierarchicalReferences a_HasChild a_Organizes a_Aggregates a_HasSubtype a_HasProperty a_HasComponent a_NonHierarchicalReferences a_HasTypeDefinition ((p1 &&& (2147483647 : Int32)) % (10 : Int32))))))] [(.int (1 : Int32))])) := fun tq kq => G323 tq (by
      refine XS.istore X322.here hx rfl (hb hby at_45) rfl (l' := #[.val (.int p0), .val (.int p1), .val (.int ((p0 &&& (2147483647 : Int32)) % (10 : Int32))), .val (.int ((p1 &&& (2147483647 : Int32)) % (10 : Int32))), .val (.int (own_b (¬ ((((own_anc ((p0 &&& (2147483647 : Int32)) % (10 : Int32))) >>> (((p1 &&& (2147483647 : Int32)) % (10 : Int32)) &&& 31)) &&& (1 : Int32)) = (0 : Int32))))), .val (.int (own_b (a_HasComponent = (own_pick a_References a_HierarchicalReferences a_HasChild a_Organizes a_Aggregates a_HasSubtype a_HasProperty a_HasComponent a_NonHierarchicalReferences a_HasTypeDefinition ((p1 &&& (2147483647 : Int32)) % (10 : Int32))) ∨ a_Aggregates = (own_pick a_References a_HierarchicalReferences a_HasChild a_Organizes a_Aggregates a_HasSubtype a_HasProperty a_HasComponent a_NonHierarchicalReferences a_HasTypeDefinition ((p1 &&& (2147483647 : Int32)) % (10 : Int32))) ∨ a_HasChild = (own_pick a_References a_HierarchicalReferences a_HasChild a_Organizes a_Aggregates a_HasSubtype a_HasProperty a_HasComponent a_NonHierarchicalReferences a_HasTypeDefinition ((p1 &&& (2147483647 : Int32)) % (10 : Int32))) ∨ a_HierarchicalReferences = (own_pick a_References a_HierarchicalReferences a_HasChild a_Organizes a_Aggregates a_HasSubtype a_HasProperty a_HasComponent a_NonHierarchicalReferences a_HasTypeDefinition ((p1 &&& (2147483647 : Int32)) % (10 : Int32))) ∨ a_References = (own_pick a_References a_HierarchicalReferences a_HasChild a_Organizes a_Aggregates a_HasSubtype a_HasProperty a_HasComponent a_NonHierarchicalReferences a_HasTypeDefinition ((p1 &&& (2147483647 : Int32)) % (10 : Int32))))))]) rfl ?_
      show Steps p.tables e below (T322.setTop (mkF m 47 #[.val (.int p0), .val (.int p1), .val (.int ((p0 &&& (2147483647 : Int32)) % (10 : Int32))), .val (.int ((p1 &&& (2147483647 : Int32)) % (10 : Int32))), .val (.int (own_b (¬ ((((own_anc ((p0 &&& (2147483647 : Int32)) % (10 : Int32))) >>> (((p1 &&& (2147483647 : Int32)) % (10 : Int32)) &&& 31)) &&& (1 : Int32)) = (0 : Int32))))), .val (.int (own_b (a_HasComponent = (own_pick a_References a_HierarchicalReferences a_HasChild a_Organizes a_Aggregates a_HasSubtype a_HasProperty a_HasComponent a_NonHierarchicalReferences a_HasTypeDefinition ((p1 &&& (2147483647 : Int32)) % (10 : Int32))) ∨ a_Aggregates = (own_pick a_References a_HierarchicalReferences a_HasChild a_Organizes a_Aggregates a_HasSubtype a_HasProperty a_HasComponent a_NonHierarchicalReferences a_HasTypeDefinition ((p1 &&& (2147483647 : Int32)) % (10 : Int32))) ∨ a_HasChild = (own_pick a_References a_HierarchicalReferences a_HasChild a_Organizes a_Aggregates a_HasSubtype a_HasProperty a_HasComponent a_NonHierarchicalReferences a_HasTypeDefinition ((p1 &&& (2147483647 : Int32)) % (10 : Int32))) ∨ a_HierarchicalReferences = (own_pick a_References a_HierarchicalReferences a_HasChild a_Organizes a_Aggregates a_HasSubtype a_HasProperty a_HasComponent a_NonHierarchicalReferences a_HasTypeDefinition ((p1 &&& (2147483647 : Int32)) % (10 : Int32))) ∨ a_References = (own_pick a_References a_HierarchicalReferences a_HasChild a_Organizes a_Aggregates a_HasSubtype a_HasProperty a_HasComponent a_NonHierarchicalReferences a_HasTypeDefinition ((p1 &&& (2147483647 : Int32)) % (10 : Int32))))))] [])) _
      refine XS.iload X322.here hx rfl (hb hby at_47) rfl ?_
      show Steps p.tables e below (T322.setTop (mkF m 49 #[.val (.int p0), .val (.int p1), .val (.int ((p0 &&& (2147483647 : Int32)) % (10 : Int32))), .val (.int ((p1 &&& (2147483647 : Int32)) % (10 : Int32))), .val (.int (own_b (¬ ((((own_anc ((p0 &&& (2147483647 : Int32)) % (10 : Int32))) >>> (((p1 &&& (2147483647 : Int32)) % (10 : Int32)) &&& 31)) &&& (1 : Int32)) = (0 : Int32))))), .val (.int (own_b (a_HasComponent = (own_pick a_References a_HierarchicalReferences a_HasChild a_Organizes a_Aggregates a_HasSubtype a_HasProperty a_HasComponent a_NonHierarchicalReferences a_HasTypeDefinition ((p1 &&& (2147483647 : Int32)) % (10 : Int32))) ∨ a_Aggregates = (own_pick a_References a_HierarchicalReferences a_HasChild a_Organizes a_Aggregates a_HasSubtype a_HasProperty a_HasComponent a_NonHierarchicalReferences a_HasTypeDefinition ((p1 &&& (2147483647 : Int32)) % (10 : Int32))) ∨ a_HasChild = (own_pick a_References a_HierarchicalReferences a_HasChild a_Organizes a_Aggregates a_HasSubtype a_HasProperty a_HasComponent a_NonHierarchicalReferences a_HasTypeDefinition ((p1 &&& (2147483647 : Int32)) % (10 : Int32))) ∨ a_HierarchicalReferences = (own_pick a_References a_HierarchicalReferences a_HasChild a_Organizes a_Aggregates a_HasSubtype a_HasProperty a_HasComponent a_NonHierarchicalReferences a_HasTypeDefinition ((p1 &&& (2147483647 : Int32)) % (10 : Int32))) ∨ a_References = (own_pick a_References a_HierarchicalReferences a_HasChild a_Organizes a_Aggregates a_HasSubtype a_HasProperty a_HasComponent a_NonHierarchicalReferences a_HasTypeDefinition ((p1 &&& (2147483647 : Int32)) % (10 : Int32))))))] [(.int (own_b (a_HasComponent = (own_pick a_References a_HierarchicalReferences a_HasChild a_Organizes a_Aggregates a_HasSubtype a_HasProperty a_HasComponent a_NonHierarchicalReferences a_HasTypeDefinition ((p1 &&& (2147483647 : Int32)) % (10 : Int32))) ∨ a_Aggregates = (own_pick a_References a_HierarchicalReferences a_HasChild a_Organizes a_Aggregates a_HasSubtype a_HasProperty a_HasComponent a_NonHierarchicalReferences a_HasTypeDefinition ((p1 &&& (2147483647 : Int32)) % (10 : Int32))) ∨ a_HasChild = (own_pick a_References a_HierarchicalReferences a_HasChild a_Organizes a_Aggregates a_HasSubtype a_HasProperty a_HasComponent a_NonHierarchicalReferences a_HasTypeDefinition ((p1 &&& (2147483647 : Int32)) % (10 : Int32))) ∨ a_HierarchicalReferences = (own_pick a_References a_HierarchicalReferences a_HasChild a_Organizes a_Aggregates a_HasSubtype a_HasProperty a_HasComponent a_NonHierarchicalReferences a_HasTypeDefinition ((p1 &&& (2147483647 : Int32)) % (10 : Int32))) ∨ a_References = (own_pick a_References a_HierarchicalReferences a_HasChild a_Organizes a_Aggregates a_HasSubtype a_HasProperty a_HasComponent a_NonHierarchicalReferences a_HasTypeDefinition ((p1 &&& (2147483647 : Int32)) % (10 : Int32))))))])) _
      refine XS.iload X322.here hx rfl (hb hby at_49) rfl ?_
      show Steps p.tables e below (T322.setTop (mkF m 51 #[.val (.int p0), .val (.int p1), .val (.int ((p0 &&& (2147483647 : Int32)) % (10 : Int32))), .val (.int ((p1 &&& (2147483647 : Int32)) % (10 : Int32))), .val (.int (own_b (¬ ((((own_anc ((p0 &&& (2147483647 : Int32)) % (10 : Int32))) >>> (((p1 &&& (2147483647 : Int32)) % (10 : Int32)) &&& 31)) &&& (1 : Int32)) = (0 : Int32))))), .val (.int (own_b (a_HasComponent = (own_pick a_References a_HierarchicalReferences a_HasChild a_Organizes a_Aggregates a_HasSubtype a_HasProperty a_HasComponent a_NonHierarchicalReferences a_HasTypeDefinition ((p1 &&& (2147483647 : Int32)) % (10 : Int32))) ∨ a_Aggregates = (own_pick a_References a_HierarchicalReferences a_HasChild a_Organizes a_Aggregates a_HasSubtype a_HasProperty a_HasComponent a_NonHierarchicalReferences a_HasTypeDefinition ((p1 &&& (2147483647 : Int32)) % (10 : Int32))) ∨ a_HasChild = (own_pick a_References a_HierarchicalReferences a_HasChild a_Organizes a_Aggregates a_HasSubtype a_HasProperty a_HasComponent a_NonHierarchicalReferences a_HasTypeDefinition ((p1 &&& (2147483647 : Int32)) % (10 : Int32))) ∨ a_HierarchicalReferences = (own_pick a_References a_HierarchicalReferences a_HasChild a_Organizes a_Aggregates a_HasSubtype a_HasProperty a_HasComponent a_NonHierarchicalReferences a_HasTypeDefinition ((p1 &&& (2147483647 : Int32)) % (10 : Int32))) ∨ a_References = (own_pick a_References a_HierarchicalReferences a_HasChild a_Organizes a_Aggregates a_HasSubtype a_HasProperty a_HasComponent a_NonHierarchicalReferences a_HasTypeDefinition ((p1 &&& (2147483647 : Int32)) % (10 : Int32))))))] [(.int (own_b (¬ ((((own_anc ((p0 &&& (2147483647 : Int32)) % (10 : Int32))) >>> (((p1 &&& (2147483647 : Int32)) % (10 : Int32)) &&& 31)) &&& (1 : Int32)) = (0 : Int32))))), (.int (own_b (a_HasComponent = (own_pick a_References a_HierarchicalReferences a_HasChild a_Organizes a_Aggregates a_HasSubtype a_HasProperty a_HasComponent a_NonHierarchicalReferences a_HasTypeDefinition ((p1 &&& (2147483647 : Int32)) % (10 : Int32))) ∨ a_Aggregates = (own_pick a_References a_HierarchicalReferences a_HasChild a_Organizes a_Aggregates a_HasSubtype a_HasProperty a_HasComponent a_NonHierarchicalReferences a_HasTypeDefinition ((p1 &&& (2147483647 : Int32)) % (10 : Int32))) ∨ a_HasChild = (own_pick a_References a_HierarchicalReferences a_HasChild a_Organizes a_Aggregates a_HasSubtype a_HasProperty a_HasComponent a_NonHierarchicalReferences a_HasTypeDefinition ((p1 &&& (2147483647 : Int32)) % (10 : Int32))) ∨ a_HierarchicalReferences = (own_pick a_References a_HierarchicalReferences a_HasChild a_Organizes a_Aggregates a_HasSubtype a_HasProperty a_HasComponent a_NonHierarchicalReferences a_HasTypeDefinition ((p1 &&& (2147483647 : Int32)) % (10 : Int32))) ∨ a_References = (own_pick a_References a_HierarchicalReferences a_HasChild a_Organizes a_Aggregates a_HasSubtype a_HasProperty a_HasComponent a_NonHierarchicalReferences a_HasTypeDefinition ((p1 &&& (2147483647 : Int32)) % (10 : Int32))))))])) _
      refine XS.icmpNo X322.here hx rfl (hb hby at_51) rfl (teq hfin).2 ?_
      show Steps p.tables e below (T322.setTop (mkF m 54 #[.val (.int p0), .val (.int p1), .val (.int ((p0 &&& (2147483647 : Int32)) % (10 : Int32))), .val (.int ((p1 &&& (2147483647 : Int32)) % (10 : Int32))), .val (.int (own_b (¬ ((((own_anc ((p0 &&& (2147483647 : Int32)) % (10 : Int32))) >>> (((p1 &&& (2147483647 : Int32)) % (10 : Int32)) &&& 31)) &&& (1 : Int32)) = (0 : Int32))))), .val (.int (own_b (a_HasComponent = (own_pick a_References a_HierarchicalReferences a_HasChild a_Organizes a_Aggregates a_HasSubtype a_HasProperty a_HasComponent a_NonHierarchicalReferences a_HasTypeDefinition ((p1 &&& (2147483647 : Int32)) % (10 : Int32))) ∨ a_Aggregates = (own_pick a_References a_HierarchicalReferences a_HasChild a_Organizes a_Aggregates a_HasSubtype a_HasProperty a_HasComponent a_NonHierarchicalReferences a_HasTypeDefinition ((p1 &&& (2147483647 : Int32)) % (10 : Int32))) ∨ a_HasChild = (own_pick a_References a_HierarchicalReferences a_HasChild a_Organizes a_Aggregates a_HasSubtype a_HasProperty a_HasComponent a_NonHierarchicalReferences a_HasTypeDefinition ((p1 &&& (2147483647 : Int32)) % (10 : Int32))) ∨ a_HierarchicalReferences = (own_pick a_References a_HierarchicalReferences a_HasChild a_Organizes a_Aggregates a_HasSubtype a_HasProperty a_HasComponent a_NonHierarchicalReferences a_HasTypeDefinition ((p1 &&& (2147483647 : Int32)) % (10 : Int32))) ∨ a_References = (own_pick a_References a_HierarchicalReferences a_HasChild a_Organizes a_Aggregates a_HasSubtype a_HasProperty a_HasComponent a_NonHierarchicalReferences a_HasTypeDefinition ((p1 &&& (2147483647 : Int32)) % (10 : Int32))))))] [])) _
      refine XS.iconst X322.here hx rfl (hb hby at_54) ?_
      show Steps p.tables e below (T322.setTop (mkF m 55 #[.val (.int p0), .val (.int p1), .val (.int ((p0 &&& (2147483647 : Int32)) % (10 : Int32))), .val (.int ((p1 &&& (2147483647 : Int32)) % (10 : Int32))), .val (.int (own_b (¬ ((((own_anc ((p0 &&& (2147483647 : Int32)) % (10 : Int32))) >>> (((p1 &&& (2147483647 : Int32)) % (10 : Int32)) &&& 31)) &&& (1 : Int32)) = (0 : Int32))))), .val (.int (own_b (a_HasComponent = (own_pick a_References a_HierarchicalReferences a_HasChild a_Organizes a_Aggregates a_HasSubtype a_HasProperty a_HasComponent a_NonHierarchicalReferences a_HasTypeDefinition ((p1 &&& (2147483647 : Int32)) % (10 : Int32))) ∨ a_Aggregates = (own_pick a_References a_HierarchicalReferences a_HasChild a_Organizes a_Aggregates a_HasSubtype a_HasProperty a_HasComponent a_NonHierarchicalReferences a_HasTypeDefinition ((p1 &&& (2147483647 : Int32)) % (10 : Int32))) ∨ a_HasChild = (own_pick a_References a_HierarchicalReferences a_HasChild a_Organizes a_Aggregates a_HasSubtype a_HasProperty a_HasComponent a_NonHierarchicalReferences a_HasTypeDefinition ((p1 &&& (2147483647 : Int32)) % (10 : Int32))) ∨ a_HierarchicalReferences = (own_pick a_References a_HierarchicalReferences a_HasChild a_Organizes a_Aggregates a_HasSubtype a_HasProperty a_HasComponent a_NonHierarchicalReferences a_HasTypeDefinition ((p1 &&& (2147483647 : Int32)) % (10 : Int32))) ∨ a_References = (own_pick a_References a_HierarchicalReferences a_HasChild a_Organizes a_Aggregates a_HasSubtype a_HasProperty a_HasComponent a_NonHierarchicalReferences a_HasTypeDefinition ((p1 &&& (2147483647 : Int32)) % (10 : Int32))))))] [(.int (1 : Int32))])) _
      refine XS.goto X322.here hx rfl (pc0 := 55) (pc' := 59) rfl (hb hby at_55) (by decide) (by decide) ?_
      show Steps p.tables e below (T322.setTop (mkF m 59 #[.val (.int p0), .val (.int p1), .val (.int ((p0 &&& (2147483647 : Int32)) % (10 : Int32))), .val (.int ((p1 &&& (2147483647 : Int32)) % (10 : Int32))), .val (.int (own_b (¬ ((((own_anc ((p0 &&& (2147483647 : Int32)) % (10 : Int32))) >>> (((p1 &&& (2147483647 : Int32)) % (10 : Int32)) &&& 31)) &&& (1 : Int32)) = (0 : Int32))))), .val (.int (own_b (a_HasComponent = (own_pick a_References a_HierarchicalReferences a_HasChild a_Organizes a_Aggregates a_HasSubtype a_HasProperty a_HasComponent a_NonHierarchicalReferences a_HasTypeDefinition ((p1 &&& (2147483647 : Int32)) % (10 : Int32))) ∨ a_Aggregates = (own_pick a_References a_HierarchicalReferences a_HasChild a_Organizes a_Aggregates a_HasSubtype a_HasProperty a_HasComponent a_NonHierarchicalReferences a_HasTypeDefinition ((p1 &&& (2147483647 : Int32)) % (10 : Int32))) ∨ a_HasChild = (own_pick a_References a_HierarchicalReferences a_HasChild a_Organizes a_Aggregates a_HasSubtype a_HasProperty a_HasComponent a_NonHierarchicalReferences a_HasTypeDefinition ((p1 &&& (2147483647 : Int32)) % (10 : Int32))) ∨ a_HierarchicalReferences = (own_pick a_References a_HierarchicalReferences a_HasChild a_Organizes a_Aggregates a_HasSubtype a_HasProperty a_HasComponent a_NonHierarchicalReferences a_HasTypeDefinition ((p1 &&& (2147483647 : Int32)) % (10 : Int32))) ∨ a_References = (own_pick a_References a_HierarchicalReferences a_HasChild a_Organizes a_Aggregates a_HasSubtype a_HasProperty a_HasComponent a_NonHierarchicalReferences a_HasTypeDefinition ((p1 &&& (2147483647 : Int32)) % (10 : Int32))))))] [(.int (1 : Int32))])) _
      exact kq)
    obtain ⟨fs, hr, hrun, hended, hW, hsame⟩ := X322.leave (v := some (.int (nar .boolean (1 : Int32)))) (fun h => by rw [Bd.returns] at h; cases h)
    refine ⟨_, _, (by rw [← hA0]; exact G324 _ (retN X322 hx (t := .boolean) Bd.returns (by simp) (hb hby at_59) hr)), hrun, hended, _, _, rfl, ?_, ⟨_, rfl⟩, hW, hsame.mono (by decide) (by decide)⟩
    exact ⟨rfl, N322⟩
  · have G325 : Go p e below A0 (T291.setTop (mkF m 42 #[.val (.int p0), .val (.int p1), .val (.int ((p0 &&& (2147483647 : Int32)) % (10 : Int32))), .val (.int ((p1 &&& (2147483647 : Int32)) % (10 : Int32))), .val (.int (own_b (¬ ((((own_anc ((p0 &&& (2147483647 : Int32)) % (10 : Int32))) >>> (((p1 &&& (2147483647 : Int32)) % (10 : Int32)) &&& 31)) &&& (1 : Int32)) = (0 : Int32))))), .unset] [(.ref (own_pick a_References a_HierarchicalReferences a_HasChild a_Organizes a_Aggregates a_HasSubtype a_HasProperty a_HasComponent a_NonHierarchicalReferences a_HasTypeDefinition ((p1 &&& (2147483647 : Int32)) % (10 : Int32)))), (.ref a_NonHierarchicalReferences)])) := by
      have q : own_pick a_References a_HierarchicalReferences a_HasChild a_Organizes a_Aggregates a_HasSubtype a_HasProperty a_HasComponent a_NonHierarchicalReferences a_HasTypeDefinition ((p0 &&& (2147483647 : Int32)) % (10 : Int32)) = a_NonHierarchicalReferences := by rw [hk]; rfl
      have q2 := G292
      rw [q] at q2
      exact q2
    have hfin : own_b (a_NonHierarchicalReferences = (own_pick a_References a_HierarchicalReferences a_HasChild a_Organizes a_Aggregates a_HasSubtype a_HasProperty a_HasComponent a_NonHierarchicalReferences a_HasTypeDefinition ((p1 &&& (2147483647 : Int32)) % (10 : Int32))) ∨ a_References = (own_pick a_References a_HierarchicalReferences a_HasChild a_Organizes a_Aggregates a_HasSubtype a_HasProperty a_HasComponent a_NonHierarchicalReferences a_HasTypeDefinition ((p1 &&& (2147483647 : Int32)) % (10 : Int32)))) = own_b (¬ ((((own_anc ((p0 &&& (2147483647 : Int32)) % (10 : Int32))) >>> (((p1 &&& (2147483647 : Int32)) % (10 : Int32)) &&& 31)) &&& (1 : Int32)) = (0 : Int32))) := by
      rw [hk]
      exact own_sub_8 a_References a_HierarchicalReferences a_HasChild a_Organizes a_Aggregates a_HasSubtype a_HasProperty a_HasComponent a_NonHierarchicalReferences a_HasTypeDefinition hd ((p1 &&& (2147483647 : Int32)) % (10 : Int32)) (own_ten p1)
    obtain ⟨cq326, kq326, q326a, q326b, q326c⟩ := isOf hZ e291 E_a_NonHierarchicalReferences
    obtain ⟨_, _, ⟨T326, L326, k326, n326⟩, -, X326, ⟨Lc326, hQ326, l326, y326, z326⟩, st326⟩ := X291.virtualBack hx (y := (⟨"com/example/halyard/halyard/server/ReferenceType", "isSubtypeOf", "(Lcom/example/halyard/halyard/server/ReferenceType;)Z"⟩ : MethodName)) (z := (⟨"com/example/halyard/halyard/server/ReferenceType", "isSubtypeOf", "(Lcom/example/halyard/halyard/server/ReferenceType;)Z"⟩ : MethodName)) hown (mvT hZ (hw _ (List.mem_of_getElem? (i := 13) rfl))) (mvT hZ (hw _ (List.mem_of_getElem? (i := 14) rfl))) (notFace_of_selects (args := #[]) (mvT hZ (hw _ (List.mem_of_getElem? (i := 16) rfl)))) (mvT hZ (hw _ (List.mem_of_getElem? (i := 16) rfl))) (mvT hZ (hw _ (List.mem_of_getElem? (i := 15) rfl))) (by decide) (backOf (W := 0) (rm3_8 l Z a0 hw [] a_NonHierarchicalReferences a_References (own_pick a_References a_HierarchicalReferences a_HasChild a_Organizes a_Aggregates a_HasSubtype a_HasProperty a_HasComponent a_NonHierarchicalReferences a_HasTypeDefinition ((p1 &&& (2147483647 : Int32)) % (10 : Int32))) h0 n0 Z0 F_a_NonHierarchicalReferences_supertype F_a_References_supertype) hZ (hw _ (List.mem_of_getElem? (i := 17) rfl)) (hw _ (List.mem_of_getElem? (i := 9) rfl)) (by decide) (by decide)) q326a q326c (g := (mkF m 42 #[.val (.int p0), .val (.int p1), .val (.int ((p0 &&& (2147483647 : Int32)) % (10 : Int32))), .val (.int ((p1 &&& (2147483647 : Int32)) % (10 : Int32))), .val (.int (own_b (¬ ((((own_anc ((p0 &&& (2147483647 : Int32)) % (10 : Int32))) >>> (((p1 &&& (2147483647 : Int32)) % (10 : Int32)) &&& 31)) &&& (1 : Int32)) = (0 : Int32))))), .unset] [(.ref (own_pick a_References a_HierarchicalReferences a_HasChild a_Organizes a_Aggregates a_HasSubtype a_HasProperty a_HasComponent a_NonHierarchicalReferences a_HasTypeDefinition ((p1 &&& (2147483647 : Int32)) % (10 : Int32)))), (.ref a_NonHierarchicalReferences)])) rfl (by rw [hml]; rfl) (Steps.refl _) (argsL := [(.ref (own_pick a_References a_HierarchicalReferences a_HasChild a_Organizes a_Aggregates a_HasSubtype a_HasProperty a_HasComponent a_NonHierarchicalReferences a_HasTypeDefinition ((p1 &&& (2147483647 : Int32)) % (10 : Int32))))]) (rest := []) (lenOf pd_2 rfl) rfl (by show 2 * 0 + _ ≤ _; exact Nat.le_of_eq rfl) (hb hby at_42) (fun _ _ => ⟨rfl, e291, (by decide : 0 + 0 ≤ _), (by decide : 0 + 0 ≤ _)⟩)
    dsimp only [Pt.U, Pt.locs, Pt.cells, Pt.slots] at X326 l326 y326 z326 st326 hQ326
    subst l326 y326 z326
    obtain ⟨rfl, N326q, e326⟩ := hQ326
    have N326 := Fr.app N291 N326q
    have G327 : Go p e below A0 (T326.setTop (mkF m 45 #[.val (.int p0), .val (.int p1), .val (.int ((p0 &&& (2147483647 : Int32)) % (10 : Int32))), .val (.int ((p1 &&& (2147483647 : Int32)) % (10 : Int32))), .val (.int (own_b (¬ ((((own_anc ((p0 &&& (2147483647 : Int32)) % (10 : Int32))) >>> (((p1 &&& (2147483647 : Int32)) % (10 : Int32)) &&& 31)) &&& (1 : Int32)) = (0 : Int32))))), .unset] [(.int (own_b (a_NonHierarchicalReferences = (own_pick a_References a_HierarchicalReferences a_HasChild a_Organizes a_Aggregates a_HasSubtype a_HasProperty a_HasComponent a_NonHierarchicalReferences a_HasTypeDefinition ((p1 &&& (2147483647 : Int32)) % (10 : Int32))) ∨ a_References = (own_pick a_References a_HierarchicalReferences a_HasChild a_Organizes a_Aggregates a_HasSubtype a_HasProperty a_HasComponent a_NonHierarchicalReferences a_HasTypeDefinition ((p1 &&& (2147483647 : Int32)) % (10 : Int32))))))])) := fun tq kq => G325 tq (st326.trans kq)
    have G328 : Go p e below A0 (T326.setTop (mkF m 59 #[.val (.int p0), .val (.int p1), .val (.int ((p0 &&& (2147483647 : Int32)) % (10 : Int32))), .val (.int ((p1 &&& (2147483647 : Int32)) % (10 : Int32))), .val (.int (own_b (¬ ((((own_anc ((p0 &&& (2147483647 : Int32)) % (10 : Int32))) >>> (((p1 &&& (2147483647 : Int32)) % (10 : Int32)) &&& 31)) &&& (1 : Int32)) = (0 : Int32))))), .val (.int (own_b (a_NonHierarchicalReferences = (own_pick a_References a_HierarchicalReferences a_HasChild a_Organizes a_Aggregates a_HasSubtype a_HasProperty a_HasComponent a_NonHierarchicalReferences a_HasTypeDefinition ((p1 &&& (2147483647 : Int32)) % (10 : Int32))) ∨ a_References = (own_pick a_References a_HierarchicalReferences a_HasChild a_Organizes a_Aggregates a_HasSubtype a_HasProperty a_HasComponent a_NonHierarchicalReferences a_HasTypeDefinition ((p1 &&& (2147483647 : Int32)) % (10 : Int32))))))] [(.int (1 : Int32))])) := fun tq kq => G327 tq (by
      refine XS.istore X326.here hx rfl (hb hby at_45) rfl (l' := #[.val (.int p0), .val (.int p1), .val (.int ((p0 &&& (2147483647 : Int32)) % (10 : Int32))), .val (.int ((p1 &&& (2147483647 : Int32)) % (10 : Int32))), .val (.int (own_b (¬ ((((own_anc ((p0 &&& (2147483647 : Int32)) % (10 : Int32))) >>> (((p1 &&& (2147483647 : Int32)) % (10 : Int32)) &&& 31)) &&& (1 : Int32)) = (0 : Int32))))), .val (.int (own_b (a_NonHierarchicalReferences = (own_pick a_References a_HierarchicalReferences a_HasChild a_Organizes a_Aggregates a_HasSubtype a_HasProperty a_HasComponent a_NonHierarchicalReferences a_HasTypeDefinition ((p1 &&& (2147483647 : Int32)) % (10 : Int32))) ∨ a_References = (own_pick a_References a_HierarchicalReferences a_HasChild a_Organizes a_Aggregates a_HasSubtype a_HasProperty a_HasComponent a_NonHierarchicalReferences a_HasTypeDefinition ((p1 &&& (2147483647 : Int32)) % (10 : Int32))))))]) rfl ?_
      show Steps p.tables e below (T326.setTop (mkF m 47 #[.val (.int p0), .val (.int p1), .val (.int ((p0 &&& (2147483647 : Int32)) % (10 : Int32))), .val (.int ((p1 &&& (2147483647 : Int32)) % (10 : Int32))), .val (.int (own_b (¬ ((((own_anc ((p0 &&& (2147483647 : Int32)) % (10 : Int32))) >>> (((p1 &&& (2147483647 : Int32)) % (10 : Int32)) &&& 31)) &&& (1 : Int32)) = (0 : Int32))))), .val (.int (own_b (a_NonHierarchicalReferences = (own_pick a_References a_HierarchicalReferences a_HasChild a_Organizes a_Aggregates a_HasSubtype a_HasProperty a_HasComponent a_NonHierarchicalReferences a_HasTypeDefinition ((p1 &&& (2147483647 : Int32)) % (10 : Int32))) ∨ a_References = (own_pick a_References a_HierarchicalReferences a_HasChild a_Organizes a_Aggregates a_HasSubtype a_HasProperty a_HasComponent a_NonHierarchicalReferences a_HasTypeDefinition ((p1 &&& (2147483647 : Int32)) % (10 : Int32))))))] [])) _
      refine XS.iload X326.here hx rfl (hb hby at_47) rfl ?_
      show Steps p.tables e below (T326.setTop (mkF m 49 #[.val (.int p0), .val (.int p1), .val (.int ((p0 &&& (2147483647 : Int32)) % (10 : Int32))), .val (.int ((p1 &&& (2147483647 : Int32)) % (10 : Int32))), .val (.int (own_b (¬ ((((own_anc ((p0 &&& (2147483647 : Int32)) % (10 : Int32))) >>> (((p1 &&& (2147483647 : Int32)) % (10 : Int32)) &&& 31)) &&& (1 : Int32)) = (0 : Int32))))), .val (.int (own_b (a_NonHierarchicalReferences = (own_pick a_References a_HierarchicalReferences a_HasChild a_Organizes a_Aggregates a_HasSubtype a_HasProperty a_HasComponent a_NonHierarchicalReferences a_HasTypeDefinition ((p1 &&& (2147483647 : Int32)) % (10 : Int32))) ∨ a_References = (own_pick a_References a_HierarchicalReferences a_HasChild a_Organizes a_Aggregates a_HasSubtype a_HasProperty a_HasComponent a_NonHierarchicalReferences a_HasTypeDefinition ((p1 &&& (2147483647 : Int32)) % (10 : Int32))))))] [(.int (own_b (a_NonHierarchicalReferences = (own_pick a_References a_HierarchicalReferences a_HasChild a_Organizes a_Aggregates a_HasSubtype a_HasProperty a_HasComponent a_NonHierarchicalReferences a_HasTypeDefinition ((p1 &&& (2147483647 : Int32)) % (10 : Int32))) ∨ a_References = (own_pick a_References a_HierarchicalReferences a_HasChild a_Organizes a_Aggregates a_HasSubtype a_HasProperty a_HasComponent a_NonHierarchicalReferences a_HasTypeDefinition ((p1 &&& (2147483647 : Int32)) % (10 : Int32))))))])) _
      refine XS.iload X326.here hx rfl (hb hby at_49) rfl ?_
      show Steps p.tables e below (T326.setTop (mkF m 51 #[.val (.int p0), .val (.int p1), .val (.int ((p0 &&& (2147483647 : Int32)) % (10 : Int32))), .val (.int ((p1 &&& (2147483647 : Int32)) % (10 : Int32))), .val (.int (own_b (¬ ((((own_anc ((p0 &&& (2147483647 : Int32)) % (10 : Int32))) >>> (((p1 &&& (2147483647 : Int32)) % (10 : Int32)) &&& 31)) &&& (1 : Int32)) = (0 : Int32))))), .val (.int (own_b (a_NonHierarchicalReferences = (own_pick a_References a_HierarchicalReferences a_HasChild a_Organizes a_Aggregates a_HasSubtype a_HasProperty a_HasComponent a_NonHierarchicalReferences a_HasTypeDefinition ((p1 &&& (2147483647 : Int32)) % (10 : Int32))) ∨ a_References = (own_pick a_References a_HierarchicalReferences a_HasChild a_Organizes a_Aggregates a_HasSubtype a_HasProperty a_HasComponent a_NonHierarchicalReferences a_HasTypeDefinition ((p1 &&& (2147483647 : Int32)) % (10 : Int32))))))] [(.int (own_b (¬ ((((own_anc ((p0 &&& (2147483647 : Int32)) % (10 : Int32))) >>> (((p1 &&& (2147483647 : Int32)) % (10 : Int32)) &&& 31)) &&& (1 : Int32)) = (0 : Int32))))), (.int (own_b (a_NonHierarchicalReferences = (own_pick a_References a_HierarchicalReferences a_HasChild a_Organizes a_Aggregates a_HasSubtype a_HasProperty a_HasComponent a_NonHierarchicalReferences a_HasTypeDefinition ((p1 &&& (2147483647 : Int32)) % (10 : Int32))) ∨ a_References = (own_pick a_References a_HierarchicalReferences a_HasChild a_Organizes a_Aggregates a_HasSubtype a_HasProperty a_HasComponent a_NonHierarchicalReferences a_HasTypeDefinition ((p1 &&& (2147483647 : Int32)) % (10 : Int32))))))])) _
      refine XS.icmpNo X326.here hx rfl (hb hby at_51) rfl (teq hfin).2 ?_
      show Steps p.tables e below (T326.setTop (mkF m 54 #[.val (.int p0), .val (.int p1), .val (.int ((p0 &&& (2147483647 : Int32)) % (10 : Int32))), .val (.int ((p1 &&& (2147483647 : Int32)) % (10 : Int32))), .val (.int (own_b (¬ ((((own_anc ((p0 &&& (2147483647 : Int32)) % (10 : Int32))) >>> (((p1 &&& (2147483647 : Int32)) % (10 : Int32)) &&& 31)) &&& (1 : Int32)) = (0 : Int32))))), .val (.int (own_b (a_NonHierarchicalReferences = (own_pick a_References a_HierarchicalReferences a_HasChild a_Organizes a_Aggregates a_HasSubtype a_HasProperty a_HasComponent a_NonHierarchicalReferences a_HasTypeDefinition ((p1 &&& (2147483647 : Int32)) % (10 : Int32))) ∨ a_References = (own_pick a_References a_HierarchicalReferences a_HasChild a_Organizes a_Aggregates a_HasSubtype a_HasProperty a_HasComponent a_NonHierarchicalReferences a_HasTypeDefinition ((p1 &&& (2147483647 : Int32)) % (10 : Int32))))))] [])) _
      refine XS.iconst X326.here hx rfl (hb hby at_54) ?_
      show Steps p.tables e below (T326.setTop (mkF m 55 #[.val (.int p0), .val (.int p1), .val (.int ((p0 &&& (2147483647 : Int32)) % (10 : Int32))), .val (.int ((p1 &&& (2147483647 : Int32)) % (10 : Int32))), .val (.int (own_b (¬ ((((own_anc ((p0 &&& (2147483647 : Int32)) % (10 : Int32))) >>> (((p1 &&& (2147483647 : Int32)) % (10 : Int32)) &&& 31)) &&& (1 : Int32)) = (0 : Int32))))), .val (.int (own_b (a_NonHierarchicalReferences = (own_pick a_References a_HierarchicalReferences a_HasChild a_Organizes a_Aggregates a_HasSubtype a_HasProperty a_HasComponent a_NonHierarchicalReferences a_HasTypeDefinition ((p1 &&& (2147483647 : Int32)) % (10 : Int32))) ∨ a_References = (own_pick a_References a_HierarchicalReferences a_HasChild a_Organizes a_Aggregates a_HasSubtype a_HasProperty a_HasComponent a_NonHierarchicalReferences a_HasTypeDefinition ((p1 &&& (2147483647 : Int32)) % (10 : Int32))))))] [(.int (1 : Int32))])) _
      refine XS.goto X326.here hx rfl (pc0 := 55) (pc' := 59) rfl (hb hby at_55) (by decide) (by decide) ?_
      show Steps p.tables e below (T326.setTop (mkF m 59 #[.val (.int p0), .val (.int p1), .val (.int ((p0 &&& (2147483647 : Int32)) % (10 : Int32))), .val (.int ((p1 &&& (2147483647 : Int32)) % (10 : Int32))), .val (.int (own_b (¬ ((((own_anc ((p0 &&& (2147483647 : Int32)) % (10 : Int32))) >>> (((p1 &&& (2147483647 : Int32)) % (10 : Int32)) &&& 31)) &&& (1 : Int32)) = (0 : Int32))))), .val (.int (own_b (a_NonHierarchicalReferences = (own_pick a_References a_HierarchicalReferences a_HasChild a_Organizes a_Aggregates a_HasSubtype a_HasProperty a_HasComponent a_NonHierarchicalReferences a_HasTypeDefinition ((p1 &&& (2147483647 : Int32)) % (10 : Int32))) ∨ a_References = (own_pick a_References a_HierarchicalReferences a_HasChild a_Organizes a_Aggregates a_HasSubtype a_HasProperty a_HasComponent a_NonHierarchicalReferences a_HasTypeDefinition ((p1 &&& (2147483647 : Int32)) % (10 : Int32))))))] [(.int (1 : Int32))])) _
      exact kq)
    obtain ⟨fs, hr, hrun, hended, hW, hsame⟩ := X326.leave (v := some (.int (nar .boolean (1 : Int32)))) (fun h => by rw [Bd.returns] at h; cases h)
    refine ⟨_, _, (by rw [← hA0]; exact G328 _ (retN X326 hx (t := .boolean) Bd.returns (by simp) (hb hby at_59) hr)), hrun, hended, _, _, rfl, ?_, ⟨_, rfl⟩, hW, hsame.mono (by decide) (by decide)⟩
    exact ⟨rfl, N326⟩
  · have G329 : Go p e below A0 (T291.setTop (mkF m 42 #[.val (.int p0), .val (.int p1), .val (.int ((p0 &&& (2147483647 : Int32)) % (10 : Int32))), .val (.int ((p1 &&& (2147483647 : Int32)) % (10 : Int32))), .val (.int (own_b (¬ ((((own_anc ((p0 &&& (2147483647 : Int32)) % (10 : Int32))) >>> (((p1 &&& (2147483647 : Int32)) % (10 : Int32)) &&& 31)) &&& (1 : Int32)) = (0 : Int32))))), .unset] [(.ref (own_pick a_References a_HierarchicalReferences a_HasChild a_Organizes a_Aggregates a_HasSubtype a_HasProperty a_HasComponent a_NonHierarchicalReferences a_HasTypeDefinition ((p1 &&& (2147483647 : Int32)) % (10 : Int32)))), (.ref a_HasTypeDefinition)])) := by
      have q : own_pick a_References a_HierarchicalReferences a_HasChild a_Organizes a_Aggregates a_HasSubtype a_HasProperty a_HasComponent a_NonHierarchicalReferences a_HasTypeDefinition ((p0 &&& (2147483647 : Int32)) % (10 : Int32)) = a_HasTypeDefinition := by rw [hk]; rfl
      have q2 := G292
      rw [q] at q2
      exact q2
    have hfin : own_b (a_HasTypeDefinition = (own_pick a_References a_HierarchicalReferences a_HasChild a_Organizes a_Aggregates a_HasSubtype a_HasProperty a_HasComponent a_NonHierarchicalReferences a_HasTypeDefinition ((p1 &&& (2147483647 : Int32)) % (10 : Int32))) ∨ a_NonHierarchicalReferences = (own_pick a_References a_HierarchicalReferences a_HasChild a_Organizes a_Aggregates a_HasSubtype a_HasProperty a_HasComponent a_NonHierarchicalReferences a_HasTypeDefinition ((p1 &&& (2147483647 : Int32)) % (10 : Int32))) ∨ a_References = (own_pick a_References a_HierarchicalReferences a_HasChild a_Organizes a_Aggregates a_HasSubtype a_HasProperty a_HasComponent a_NonHierarchicalReferences a_HasTypeDefinition ((p1 &&& (2147483647 : Int32)) % (10 : Int32)))) = own_b (¬ ((((own_anc ((p0 &&& (2147483647 : Int32)) % (10 : Int32))) >>> (((p1 &&& (2147483647 : Int32)) % (10 : Int32)) &&& 31)) &&& (1 : Int32)) = (0 : Int32))) := by
      rw [hk]
      exact own_sub_9 a_References a_HierarchicalReferences a_HasChild a_Organizes a_Aggregates a_HasSubtype a_HasProperty a_HasComponent a_NonHierarchicalReferences a_HasTypeDefinition hd ((p1 &&& (2147483647 : Int32)) % (10 : Int32)) (own_ten p1)
    obtain ⟨cq330, kq330, q330a, q330b, q330c⟩ := isOf hZ e291 E_a_HasTypeDefinition
    obtain ⟨_, _, ⟨T330, L330, k330, n330⟩, -, X330, ⟨Lc330, hQ330, l330, y330, z330⟩, st330⟩ := X291.virtualBack hx (y := (⟨"com/example/halyard/halyard/server/ReferenceType", "isSubtypeOf", "(Lcom/example/halyard/halyard/server/ReferenceType;)Z"⟩ : MethodName)) (z := (⟨"com/example/halyard/halyard/server/ReferenceType", "isSubtypeOf", "(Lcom/example/halyard/halyard/server/ReferenceType;)Z"⟩ : MethodName)) hown (mvT hZ (hw _ (List.mem_of_getElem? (i := 13) rfl))) (mvT hZ (hw _ (List.mem_of_getElem? (i := 14) rfl))) (notFace_of_selects (args := #[]) (mvT hZ (hw _ (List.mem_of_getElem? (i := 16) rfl)))) (mvT hZ (hw _ (List.mem_of_getElem? (i := 16) rfl))) (mvT hZ (hw _ (List.mem_of_getElem? (i := 15) rfl))) (by decide) (backOf (W := 0) (rm3_9 l Z a0 hw [] a_HasTypeDefinition a_NonHierarchicalReferences a_References (own_pick a_References a_HierarchicalReferences a_HasChild a_Organizes a_Aggregates a_HasSubtype a_HasProperty a_HasComponent a_NonHierarchicalReferences a_HasTypeDefinition ((p1 &&& (2147483647 : Int32)) % (10 : Int32))) h0 n0 Z0 F_a_HasTypeDefinition_supertype F_a_NonHierarchicalReferences_supertype F_a_References_supertype) hZ (hw _ (List.mem_of_getElem? (i := 17) rfl)) (hw _ (List.mem_of_getElem? (i := 9) rfl)) (by decide) (by decide)) q330a q330c (g := (mkF m 42 #[.val (.int p0), .val (.int p1), .val (.int ((p0 &&& (2147483647 : Int32)) % (10 : Int32))), .val (.int ((p1 &&& (2147483647 : Int32)) % (10 : Int32))), .val (.int (own_b (¬ ((((own_anc ((p0 &&& (2147483647 : Int32)) % (10 : Int32))) >>> (((p1 &&& (2147483647 : Int32)) % (10 : Int32)) &&& 31)) &&& (1 : Int32)) = (0 : Int32))))), .unset] [(.ref (own_pick a_References a_HierarchicalReferences a_HasChild a_Organizes a_Aggregates a_HasSubtype a_HasProperty a_HasComponent a_NonHierarchicalReferences a_HasTypeDefinition ((p1 &&& (2147483647 : Int32)) % (10 : Int32)))), (.ref a_HasTypeDefinition)])) rfl (by rw [hml]; rfl) (Steps.refl _) (argsL := [(.ref (own_pick a_References a_HierarchicalReferences a_HasChild a_Organizes a_Aggregates a_HasSubtype a_HasProperty a_HasComponent a_NonHierarchicalReferences a_HasTypeDefinition ((p1 &&& (2147483647 : Int32)) % (10 : Int32))))]) (rest := []) (lenOf pd_2 rfl) rfl (by show 2 * 0 + _ ≤ _; exact Nat.le_of_eq rfl) (hb hby at_42) (fun _ _ => ⟨rfl, e291, (by decide : 0 + 0 ≤ _), (by decide : 0 + 0 ≤ _)⟩)
    dsimp only [Pt.U, Pt.locs, Pt.cells, Pt.slots] at X330 l330 y330 z330 st330 hQ330
    subst l330 y330 z330
    obtain ⟨rfl, N330q, e330⟩ := hQ330
    have N330 := Fr.app N291 N330q
    have G331 : Go p e below A0 (T330.setTop (mkF m 45 #[.val (.int p0), .val (.int p1), .val (.int ((p0 &&& (2147483647 : Int32)) % (10 : Int32))), .val (.int ((p1 &&& (2147483647 : Int32)) % (10 : Int32))), .val (.int (own_b (¬ ((((own_anc ((p0 &&& (2147483647 : Int32)) % (10 : Int32))) >>> (((p1 &&& (2147483647 : Int32)) % (10 : Int32)) &&& 31)) &&& (1 : Int32)) = (0 : Int32))))), .unset] [(.int (own_b (a_HasTypeDefinition = (own_pick a_References a_HierarchicalReferences a_HasChild a_Organizes a_Aggregates a_HasSubtype a_HasProperty a_HasComponent a_NonHierarchicalReferences a_HasTypeDefinition ((p1 &&& (2147483647 : Int32)) % (10 : Int32))) ∨ a_NonHierarchicalReferences = (own_pick a_References a_HierarchicalReferences a_HasChild a_Organizes a_Aggregates a_HasSubtype a_HasProperty a_HasComponent a_NonHierarchicalReferences a_HasTypeDefinition ((p1 &&& (2147483647 : Int32)) % (10 : Int32))) ∨ a_References = (own_pick a_References a_HierarchicalReferences a_HasChild a_Organizes a_Aggregates a_HasSubtype a_HasProperty a_HasComponent a_NonHierarchicalReferences a_HasTypeDefinition ((p1 &&& (2147483647 : Int32)) % (10 : Int32))))))])) := fun tq kq => G329 tq (st330.trans kq)
    have G332 : Go p e below A0 (T330.setTop (mkF m 59 #[.val (.int p0), .val (.int p1), .val (.int ((p0 &&& (2147483647 : Int32)) % (10 : Int32))), .val (.int ((p1 &&& (2147483647 : Int32)) % (10 : Int32))), .val (.int (own_b (¬ ((((own_anc ((p0 &&& (2147483647 : Int32)) % (10 : Int32))) >>> (((p1 &&& (2147483647 : Int32)) % (10 : Int32)) &&& 31)) &&& (1 : Int32)) = (0 : Int32))))), .val (.int (own_b (a_HasTypeDefinition = (own_pick a_References a_HierarchicalReferences a_HasChild a_Organizes a_Aggregates a_HasSubtype a_HasProperty a_HasComponent a_NonHierarchicalReferences a_HasTypeDefinition ((p1 &&& (2147483647 : Int32)) % (10 : Int32))) ∨ a_NonHierarchicalReferences = (own_pick a_References a_HierarchicalReferences a_HasChild a_Organizes a_Aggregates a_HasSubtype a_HasProperty a_HasComponent a_NonHierarchicalReferences a_HasTypeDefinition ((p1 &&& (2147483647 : Int32)) % (10 : Int32))) ∨ a_References = (own_pick a_References a_HierarchicalReferences a_HasChild a_Organizes a_Aggregates a_HasSubtype a_HasProperty a_HasComponent a_NonHierarchicalReferences a_HasTypeDefinition ((p1 &&& (2147483647 : Int32)) % (10 : Int32))))))] [(.int (1 : Int32))])) := fun tq kq => G331 tq (by
      refine XS.istore X330.here hx rfl (hb hby at_45) rfl (l' := #[.val (.int p0), .val (.int p1), .val (.int ((p0 &&& (2147483647 : Int32)) % (10 : Int32))), .val (.int ((p1 &&& (2147483647 : Int32)) % (10 : Int32))), .val (.int (own_b (¬ ((((own_anc ((p0 &&& (2147483647 : Int32)) % (10 : Int32))) >>> (((p1 &&& (2147483647 : Int32)) % (10 : Int32)) &&& 31)) &&& (1 : Int32)) = (0 : Int32))))), .val (.int (own_b (a_HasTypeDefinition = (own_pick a_References a_HierarchicalReferences a_HasChild a_Organizes a_Aggregates a_HasSubtype a_HasProperty a_HasComponent a_NonHierarchicalReferences a_HasTypeDefinition ((p1 &&& (2147483647 : Int32)) % (10 : Int32))) ∨ a_NonHierarchicalReferences = (own_pick a_References a_HierarchicalReferences a_HasChild a_Organizes a_Aggregates a_HasSubtype a_HasProperty a_HasComponent a_NonHierarchicalReferences a_HasTypeDefinition ((p1 &&& (2147483647 : Int32)) % (10 : Int32))) ∨ a_References = (own_pick a_References a_HierarchicalReferences a_HasChild a_Organizes a_Aggregates a_HasSubtype a_HasProperty a_HasComponent a_NonHierarchicalReferences a_HasTypeDefinition ((p1 &&& (2147483647 : Int32)) % (10 : Int32))))))]) rfl ?_
      show Steps p.tables e below (T330.setTop (mkF m 47 #[.val (.int p0), .val (.int p1), .val (.int ((p0 &&& (2147483647 : Int32)) % (10 : Int32))), .val (.int ((p1 &&& (2147483647 : Int32)) % (10 : Int32))), .val (.int (own_b (¬ ((((own_anc ((p0 &&& (2147483647 : Int32)) % (10 : Int32))) >>> (((p1 &&& (2147483647 : Int32)) % (10 : Int32)) &&& 31)) &&& (1 : Int32)) = (0 : Int32))))), .val (.int (own_b (a_HasTypeDefinition = (own_pick a_References a_HierarchicalReferences a_HasChild a_Organizes a_Aggregates a_HasSubtype a_HasProperty a_HasComponent a_NonHierarchicalReferences a_HasTypeDefinition ((p1 &&& (2147483647 : Int32)) % (10 : Int32))) ∨ a_NonHierarchicalReferences = (own_pick a_References a_HierarchicalReferences a_HasChild a_Organizes a_Aggregates a_HasSubtype a_HasProperty a_HasComponent a_NonHierarchicalReferences a_HasTypeDefinition ((p1 &&& (2147483647 : Int32)) % (10 : Int32))) ∨ a_References = (own_pick a_References a_HierarchicalReferences a_HasChild a_Organizes a_Aggregates a_HasSubtype a_HasProperty a_HasComponent a_NonHierarchicalReferences a_HasTypeDefinition ((p1 &&& (2147483647 : Int32)) % (10 : Int32))))))] [])) _
      refine XS.iload X330.here hx rfl (hb hby at_47) rfl ?_
      show Steps p.tables e below (T330.setTop (mkF m 49 #[.val (.int p0), .val (.int p1), .val (.int ((p0 &&& (2147483647 : Int32)) % (10 : Int32))), .val (.int ((p1 &&& (2147483647 : Int32)) % (10 : Int32))), .val (.int (own_b (¬ ((((own_anc ((p0 &&& (2147483647 : Int32)) % (10 : Int32))) >>> (((p1 &&& (2147483647 : Int32)) % (10 : Int32)) &&& 31)) &&& (1 : Int32)) = (0 : Int32))))), .val (.int (own_b (a_HasTypeDefinition = (own_pick a_References a_HierarchicalReferences a_HasChild a_Organizes a_Aggregates a_HasSubtype a_HasProperty a_HasComponent a_NonHierarchicalReferences a_HasTypeDefinition ((p1 &&& (2147483647 : Int32)) % (10 : Int32))) ∨ a_NonHierarchicalReferences = (own_pick a_References a_HierarchicalReferences a_HasChild a_Organizes a_Aggregates a_HasSubtype a_HasProperty a_HasComponent a_NonHierarchicalReferences a_HasTypeDefinition ((p1 &&& (2147483647 : Int32)) % (10 : Int32))) ∨ a_References = (own_pick a_References a_HierarchicalReferences a_HasChild a_Organizes a_Aggregates a_HasSubtype a_HasProperty a_HasComponent a_NonHierarchicalReferences a_HasTypeDefinition ((p1 &&& (2147483647 : Int32)) % (10 : Int32))))))] [(.int (own_b (a_HasTypeDefinition = (own_pick a_References a_HierarchicalReferences a_HasChild a_Organizes a_Aggregates a_HasSubtype a_HasProperty a_HasComponent a_NonHierarchicalReferences a_HasTypeDefinition ((p1 &&& (2147483647 : Int32)) % (10 : Int32))) ∨ a_NonHierarchicalReferences = (own_pick a_References a_HierarchicalReferences a_HasChild a_Organizes a_Aggregates a_HasSubtype a_HasProperty a_HasComponent a_NonHierarchicalReferences a_HasTypeDefinition ((p1 &&& (2147483647 : Int32)) % (10 : Int32))) ∨ a_References = (own_pick a_References a_HierarchicalReferences a_HasChild a_Organizes a_Aggregates a_HasSubtype a_HasProperty a_HasComponent a_NonHierarchicalReferences a_HasTypeDefinition ((p1 &&& (2147483647 : Int32)) % (10 : Int32))))))])) _
      refine XS.iload X330.here hx rfl (hb hby at_49) rfl ?_
      show Steps p.tables e below (T330.setTop (mkF m 51 #[.val (.int p0), .val (.int p1), .val (.int ((p0 &&& (2147483647 : Int32)) % (10 : Int32))), .val (.int ((p1 &&& (2147483647 : Int32)) % (10 : Int32))), .val (.int (own_b (¬ ((((own_anc ((p0 &&& (2147483647 : Int32)) % (10 : Int32))) >>> (((p1 &&& (2147483647 : Int32)) % (10 : Int32)) &&& 31)) &&& (1 : Int32)) = (0 : Int32))))), .val (.int (own_b (a_HasTypeDefinition = (own_pick a_References a_HierarchicalReferences a_HasChild a_Organizes a_Aggregates a_HasSubtype a_HasProperty a_HasComponent a_NonHierarchicalReferences a_HasTypeDefinition ((p1 &&& (2147483647 : Int32)) % (10 : Int32))) ∨ a_NonHierarchicalReferences = (own_pick a_References a_HierarchicalReferences a_HasChild a_Organizes a_Aggregates a_HasSubtype a_HasProperty a_HasComponent a_NonHierarchicalReferences a_HasTypeDefinition ((p1 &&& (2147483647 : Int32)) % (10 : Int32))) ∨ a_References = (own_pick a_References a_HierarchicalReferences a_HasChild a_Organizes a_Aggregates a_HasSubtype a_HasProperty a_HasComponent a_NonHierarchicalReferences a_HasTypeDefinition ((p1 &&& (2147483647 : Int32)) % (10 : Int32))))))] [(.int (own_b (¬ ((((own_anc ((p0 &&& (2147483647 : Int32)) % (10 : Int32))) >>> (((p1 &&& (2147483647 : Int32)) % (10 : Int32)) &&& 31)) &&& (1 : Int32)) = (0 : Int32))))), (.int (own_b (a_HasTypeDefinition = (own_pick a_References a_HierarchicalReferences a_HasChild a_Organizes a_Aggregates a_HasSubtype a_HasProperty a_HasComponent a_NonHierarchicalReferences a_HasTypeDefinition ((p1 &&& (2147483647 : Int32)) % (10 : Int32))) ∨ a_NonHierarchicalReferences = (own_pick a_References a_HierarchicalReferences a_HasChild a_Organizes a_Aggregates a_HasSubtype a_HasProperty a_HasComponent a_NonHierarchicalReferences a_HasTypeDefinition ((p1 &&& (2147483647 : Int32)) % (10 : Int32))) ∨ a_References = (own_pick a_References a_HierarchicalReferences a_HasChild a_Organizes a_Aggregates a_HasSubtype a_HasProperty a_HasComponent a_NonHierarchicalReferences a_HasTypeDefinition ((p1 &&& (2147483647 : Int32)) % (10 : Int32))))))])) _
      refine XS.icmpNo X330.here hx rfl (hb hby at_51) rfl (teq hfin).2 ?_
      show Steps p.tables e below (T330.setTop (mkF m 54 #[.val (.int p0), .val (.int p1), .val (.int ((p0 &&& (2147483647 : Int32)) % (10 : Int32))), .val (.int ((p1 &&& (2147483647 : Int32)) % (10 : Int32))), .val (.int (own_b (¬ ((((own_anc ((p0 &&& (2147483647 : Int32)) % (10 : Int32))) >>> (((p1 &&& (2147483647 : Int32)) % (10 : Int32)) &&& 31)) &&& (1 : Int32)) = (0 : Int32))))), .val (.int (own_b (a_HasTypeDefinition = (own_pick a_References a_HierarchicalReferences a_HasChild a_Organizes a_Aggregates a_HasSubtype a_HasProperty a_HasComponent a_NonHierarchicalReferences a_HasTypeDefinition ((p1 &&& (2147483647 : Int32)) % (10 : Int32))) ∨ a_NonHierarchicalReferences = (own_pick a_References a_HierarchicalReferences a_HasChild a_Organizes a_Aggregates a_HasSubtype a_HasProperty a_HasComponent a_NonHierarchicalReferences a_HasTypeDefinition ((p1 &&& (2147483647 : Int32)) % (10 : Int32))) ∨ a_References = (own_pick a_References a_HierarchicalReferences a_HasChild a_Organizes a_Aggregates a_HasSubtype a_HasProperty a_HasComponent a_NonHierarchicalReferences a_HasTypeDefinition ((p1 &&& (2147483647 : Int32)) % (10 : Int32))))))] [])) _
      refine XS.iconst X330.here hx rfl (hb hby at_54) ?_
      show Steps p.tables e below (T330.setTop (mkF m 55 #[.val (.int p0), .val (.int p1), .val (.int ((p0 &&& (2147483647 : Int32)) % (10 : Int32))), .val (.int ((p1 &&& (2147483647 : Int32)) % (10 : Int32))), .val (.int (own_b (¬ ((((own_anc ((p0 &&& (2147483647 : Int32)) % (10 : Int32))) >>> (((p1 &&& (2147483647 : Int32)) % (10 : Int32)) &&& 31)) &&& (1 : Int32)) = (0 : Int32))))), .val (.int (own_b (a_HasTypeDefinition = (own_pick a_References a_HierarchicalReferences a_HasChild a_Organizes a_Aggregates a_HasSubtype a_HasProperty a_HasComponent a_NonHierarchicalReferences a_HasTypeDefinition ((p1 &&& (2147483647 : Int32)) % (10 : Int32))) ∨ a_NonHierarchicalReferences = (own_pick a_References a_HierarchicalReferences a_HasChild a_Organizes a_Aggregates a_HasSubtype a_HasProperty a_HasComponent a_NonHierarchicalReferences a_HasTypeDefinition ((p1 &&& (2147483647 : Int32)) % (10 : Int32))) ∨ a_References = (own_pick a_References a_HierarchicalReferences a_HasChild a_Organizes a_Aggregates a_HasSubtype a_HasProperty a_HasComponent a_NonHierarchicalReferences a_HasTypeDefinition ((p1 &&& (2147483647 : Int32)) % (10 : Int32))))))] [(.int (1 : Int32))])) _
      refine XS.goto X330.here hx rfl (pc0 := 55) (pc' := 59) rfl (hb hby at_55) (by decide) (by decide) ?_
      show Steps p.tables e below (T330.setTop (mkF m 59 #[.val (.int p0), .val (.int p1), .val (.int ((p0 &&& (2147483647 : Int32)) % (10 : Int32))), .val (.int ((p1 &&& (2147483647 : Int32)) % (10 : Int32))), .val (.int (own_b (¬ ((((own_anc ((p0 &&& (2147483647 : Int32)) % (10 : Int32))) >>> (((p1 &&& (2147483647 : Int32)) % (10 : Int32)) &&& 31)) &&& (1 : Int32)) = (0 : Int32))))), .val (.int (own_b (a_HasTypeDefinition = (own_pick a_References a_HierarchicalReferences a_HasChild a_Organizes a_Aggregates a_HasSubtype a_HasProperty a_HasComponent a_NonHierarchicalReferences a_HasTypeDefinition ((p1 &&& (2147483647 : Int32)) % (10 : Int32))) ∨ a_NonHierarchicalReferences = (own_pick a_References a_HierarchicalReferences a_HasChild a_Organizes a_Aggregates a_HasSubtype a_HasProperty a_HasComponent a_NonHierarchicalReferences a_HasTypeDefinition ((p1 &&& (2147483647 : Int32)) % (10 : Int32))) ∨ a_References = (own_pick a_References a_HierarchicalReferences a_HasChild a_Organizes a_Aggregates a_HasSubtype a_HasProperty a_HasComponent a_NonHierarchicalReferences a_HasTypeDefinition ((p1 &&& (2147483647 : Int32)) % (10 : Int32))))))] [(.int (1 : Int32))])) _
      exact kq)
    obtain ⟨fs, hr, hrun, hended, hW, hsame⟩ := X330.leave (v := some (.int (nar .boolean (1 : Int32)))) (fun h => by rw [Bd.returns] at h; cases h)
    refine ⟨_, _, (by rw [← hA0]; exact G332 _ (retN X330 hx (t := .boolean) Bd.returns (by simp) (hb hby at_59) hr)), hrun, hended, _, _, rfl, ?_, ⟨_, rfl⟩, hW, hsame.mono (by decide) (by decide)⟩
    exact ⟨rfl, N330⟩
set_option maxRecDepth 65536 in
set_option maxHeartbeats 40000000 in
theorem comes_1 {Post : Tables → Env → Array Value → State → Outcome → State → Prop} (hpost : ∀ tb e args s v u, (limb_1_1.after args s (.returned v) u = true ∧ limb_1_2.after args s (.returned v) u = true ∧ True) → FrameEnd s (.returned v) u (Jvm.fieldLocs frame_1_writes args s ++ Jvm.arrayLocs frame_1_arrays args s ++ Jvm.staticLocs frame_1_statics s) 0 0 → Post tb e args s (.returned v) u) :
    ArmFor flags0 classFile x code maxLocals ret World_1 tables_1 room_1 Calls_1 rest_1 Pre_1 Post := by
  intro l hfl _ _ p e ha hc hk s m args below hf hA hF happ hP
  obtain ⟨hcalls, hrest, hpre⟩ := hP
  obtain ⟨-, -, -, hnamed, -, -, -, hat⟩ := (Spec.applies_iff hf).mp happ
  obtain ⟨hg, hn⟩ := and_e (Cond.before_iff.mp (show (Jvm.Cond.and given_1 narrow_1).before args s = true from hpre))
  obtain ⟨g1, g2⟩ := and_e hg
  obtain ⟨g3, g4⟩ := and_e g2
  obtain ⟨w0, w1, rfl⟩ : ∃ w0 w1 : Value, args = #[w0, w1] := by
    have hs : args.size = 2 := by simpa [Cond.value, given_1] using g1
    obtain ⟨L⟩ := args
    match L, hs with
    | [w0, w1], _ => exact ⟨w0, w1, rfl⟩
  have hw := fun d (hd : d ∈ tables_1) => atoms_spec (ws := Jvm.Cond.code x code maxLocals ret :: tables_1) hat d (List.mem_cons_of_mem _ hd)
  have hfit : Fit s := fun {y c} hc i hi => by
    obtain ⟨ha, rfl⟩ := Array.getElem?_eq_some_iff.mp hc
    have q := List.all_eq_true.mp ((Array.all_eq_true_iff_forall_mem.mp hF) _ (Array.getElem_mem ha)) i (List.mem_range.mpr hi)
    simpa [Array.getElem?_eq_getElem hi] using q
  obtain ⟨i0, ei0⟩ := is_v g3
  obtain rfl : w0 = (.int i0) := Option.some.inj ei0
  obtain ⟨i1, ei1⟩ := is_v g4
  obtain rfl : w1 = (.int i1) := Option.some.inj ei1
  obtain ⟨u1, u2⟩ := and_e hn
  obtain ⟨a_References, ea_References⟩ := exa_v u1
  have S_References : Sta s s.heap "com/example/halyard/halyard/server/ReferenceType" "References" "Lcom/example/halyard/halyard/server/ReferenceType;" (.ref a_References) := Sta.start ea_References (Or.inr ⟨(hw _ (List.mem_of_getElem? (i := 9) rfl)), (hw _ (List.mem_of_getElem? (i := 10) rfl))⟩)
  have E_a_References : Exa s s.heap a_References "com/example/halyard/halyard/server/ReferenceType" := Exa.start ea_References u1
  obtain ⟨u3, u4⟩ := and_e u2
  obtain ⟨a_Organizes, ea_Organizes⟩ := exa_v u3
  have S_Organizes : Sta s s.heap "com/example/halyard/halyard/server/ReferenceType" "Organizes" "Lcom/example/halyard/halyard/server/ReferenceType;" (.ref a_Organizes) := Sta.start ea_Organizes (Or.inr ⟨(hw _ (List.mem_of_getElem? (i := 9) rfl)), (hw _ (List.mem_of_getElem? (i := 12) rfl))⟩)
  have E_a_Organizes : Exa s s.heap a_Organizes "com/example/halyard/halyard/server/ReferenceType" := Exa.start ea_Organizes u3
  obtain ⟨u5, u6⟩ := and_e u4
  have q7 := own_eqI u5
  have F_a_References_ordinal : Fld s s.heap a_References "java/lang/Enum" "ordinal" "I" (.int (0 : Int32)) := Fld.start ((fld_at ea_References).symm.trans q7)
  obtain ⟨u8, u9⟩ := and_e u6
  have q10 := own_eqI u8
  have F_a_Organizes_ordinal : Fld s s.heap a_Organizes "java/lang/Enum" "ordinal" "I" (.int (3 : Int32)) := Fld.start ((fld_at ea_Organizes).symm.trans q10)
  obtain ⟨u11, u12⟩ := and_e u9
  have F_a_References_supertype : Fld s s.heap a_References "com/example/halyard/halyard/server/ReferenceType" "supertype" "Lcom/example/halyard/halyard/server/ReferenceType;" .null := Fld.start ((fld_at ea_References).symm.trans (null_v u11))
  obtain ⟨u13, u14⟩ := and_e u12
  obtain ⟨a_Aggregates, ea_Aggregates⟩ := exa_v u13
  have S_Aggregates : Sta s s.heap "com/example/halyard/halyard/server/ReferenceType" "Aggregates" "Lcom/example/halyard/halyard/server/ReferenceType;" (.ref a_Aggregates) := Sta.start ea_Aggregates (Or.inr ⟨(hw _ (List.mem_of_getElem? (i := 9) rfl)), (hw _ (List.mem_of_getElem? (i := 21) rfl))⟩)
  have E_a_Aggregates : Exa s s.heap a_Aggregates "com/example/halyard/halyard/server/ReferenceType" := Exa.start ea_Aggregates u13
  obtain ⟨u15, u16⟩ := and_e u14
  obtain ⟨a_HierarchicalReferences, ea_HierarchicalReferences⟩ := exa_v u15
  have S_HierarchicalReferences : Sta s s.heap "com/example/halyard/halyard/server/ReferenceType" "HierarchicalReferences" "Lcom/example/halyard/halyard/server/ReferenceType;" (.ref a_HierarchicalReferences) := Sta.start ea_HierarchicalReferences (Or.inr ⟨(hw _ (List.mem_of_getElem? (i := 9) rfl)), (hw _ (List.mem_of_getElem? (i := 23) rfl))⟩)
  have E_a_HierarchicalReferences : Exa s s.heap a_HierarchicalReferences "com/example/halyard/halyard/server/ReferenceType" := Exa.start ea_HierarchicalReferences u15
  obtain ⟨u17, u18⟩ := and_e u16
  have q19 := own_eqI u17
  have F_a_Aggregates_ordinal : Fld s s.heap a_Aggregates "java/lang/Enum" "ordinal" "I" (.int (4 : Int32)) := Fld.start ((fld_at ea_Aggregates).symm.trans q19)
  obtain ⟨u20, u21⟩ := and_e u18
  have q22 := own_eqI u20
  have F_a_HierarchicalReferences_ordinal : Fld s s.heap a_HierarchicalReferences "java/lang/Enum" "ordinal" "I" (.int (1 : Int32)) := Fld.start ((fld_at ea_HierarchicalReferences).symm.trans q22)
  obtain ⟨u23, u24⟩ := and_e u21
  obtain ⟨a_HasChild, ea_HasChild⟩ := exa_v u23
  have S_HasChild : Sta s s.heap "com/example/halyard/halyard/server/ReferenceType" "HasChild" "Lcom/example/halyard/halyard/server/ReferenceType;" (.ref a_HasChild) := Sta.start ea_HasChild (Or.inr ⟨(hw _ (List.mem_of_getElem? (i := 9) rfl)), (hw _ (List.mem_of_getElem? (i := 24) rfl))⟩)
  have E_a_HasChild : Exa s s.heap a_HasChild "com/example/halyard/halyard/server/ReferenceType" := Exa.start ea_HasChild u23
  obtain ⟨u25, u26⟩ := and_e u24
  have q27 := own_eqR u25 ea_HasChild
  have F_a_Aggregates_supertype : Fld s s.heap a_Aggregates "com/example/halyard/halyard/server/ReferenceType" "supertype" "Lcom/example/halyard/halyard/server/ReferenceType;" (.ref a_HasChild) := Fld.start ((fld_at ea_Aggregates).symm.trans q27)
  obtain ⟨u28, u29⟩ := and_e u26
  have q30 := own_eqI u28
  have F_a_HasChild_ordinal : Fld s s.heap a_HasChild "java/lang/Enum" "ordinal" "I" (.int (2 : Int32)) := Fld.start ((fld_at ea_HasChild).symm.trans q30)
  obtain ⟨u31, u32⟩ := and_e u29
  have q33 := own_eqR u31 ea_HierarchicalReferences
  have F_a_HasChild_supertype : Fld s s.heap a_HasChild "com/example/halyard/halyard/server/ReferenceType" "supertype" "Lcom/example/halyard/halyard/server/ReferenceType;" (.ref a_HierarchicalReferences) := Fld.start ((fld_at ea_HasChild).symm.trans q33)
  obtain ⟨u34, u35⟩ := and_e u32
  obtain ⟨a_NonHierarchicalReferences, ea_NonHierarchicalReferences⟩ := exa_v u34
  have S_NonHierarchicalReferences : Sta s s.heap "com/example/halyard/halyard/server/ReferenceType" "NonHierarchicalReferences" "Lcom/example/halyard/halyard/server/ReferenceType;" (.ref a_NonHierarchicalReferences) := Sta.start ea_NonHierarchicalReferences (Or.inr ⟨(hw _ (List.mem_of_getElem? (i := 9) rfl)), (hw _ (List.mem_of_getElem? (i := 26) rfl))⟩)
  have E_a_NonHierarchicalReferences : Exa s s.heap a_NonHierarchicalReferences "com/example/halyard/halyard/server/ReferenceType" := Exa.start ea_NonHierarchicalReferences u34
  obtain ⟨u36, u37⟩ := and_e u35
  have q38 := own_eqI u36
  have F_a_NonHierarchicalReferences_ordinal : Fld s s.heap a_NonHierarchicalReferences "java/lang/Enum" "ordinal" "I" (.int (8 : Int32)) := Fld.start ((fld_at ea_NonHierarchicalReferences).symm.trans q38)
  obtain ⟨u39, u40⟩ := and_e u37
  have q41 := own_eqR u39 ea_References
  have F_a_NonHierarchicalReferences_supertype : Fld s s.heap a_NonHierarchicalReferences "com/example/halyard/halyard/server/ReferenceType" "supertype" "Lcom/example/halyard/halyard/server/ReferenceType;" (.ref a_References) := Fld.start ((fld_at ea_NonHierarchicalReferences).symm.trans q41)
  obtain ⟨u42, u43⟩ := and_e u40
  obtain ⟨a_HasProperty, ea_HasProperty⟩ := exa_v u42
  have S_HasProperty : Sta s s.heap "com/example/halyard/halyard/server/ReferenceType" "HasProperty" "Lcom/example/halyard/halyard/server/ReferenceType;" (.ref a_HasProperty) := Sta.start ea_HasProperty (Or.inr ⟨(hw _ (List.mem_of_getElem? (i := 9) rfl)), (hw _ (List.mem_of_getElem? (i := 28) rfl))⟩)
  have E_a_HasProperty : Exa s s.heap a_HasProperty "com/example/halyard/halyard/server/ReferenceType" := Exa.start ea_HasProperty u42
  obtain ⟨u44, u45⟩ := and_e u43
  have q46 := own_eqI u44
  have F_a_HasProperty_ordinal : Fld s s.heap a_HasProperty "java/lang/Enum" "ordinal" "I" (.int (6 : Int32)) := Fld.start ((fld_at ea_HasProperty).symm.trans q46)
  obtain ⟨u47, u48⟩ := and_e u45
  have q49 := own_eqR u47 ea_Aggregates
  have F_a_HasProperty_supertype : Fld s s.heap a_HasProperty "com/example/halyard/halyard/server/ReferenceType" "supertype" "Lcom/example/halyard/halyard/server/ReferenceType;" (.ref a_Aggregates) := Fld.start ((fld_at ea_HasProperty).symm.trans q49)
  obtain ⟨u50, u51⟩ := and_e u48
  have q52 := own_eqR u50 ea_References
  have F_a_HierarchicalReferences_supertype : Fld s s.heap a_HierarchicalReferences "com/example/halyard/halyard/server/ReferenceType" "supertype" "Lcom/example/halyard/halyard/server/ReferenceType;" (.ref a_References) := Fld.start ((fld_at ea_HierarchicalReferences).symm.trans q52)
  obtain ⟨u53, u54⟩ := and_e u51
  obtain ⟨a_HasTypeDefinition, ea_HasTypeDefinition⟩ := exa_v u53
  have S_HasTypeDefinition : Sta s s.heap "com/example/halyard/halyard/server/ReferenceType" "HasTypeDefinition" "Lcom/example/halyard/halyard/server/ReferenceType;" (.ref a_HasTypeDefinition) := Sta.start ea_HasTypeDefinition (Or.inr ⟨(hw _ (List.mem_of_getElem? (i := 9) rfl)), (hw _ (List.mem_of_getElem? (i := 30) rfl))⟩)
  have E_a_HasTypeDefinition : Exa s s.heap a_HasTypeDefinition "com/example/halyard/halyard/server/ReferenceType" := Exa.start ea_HasTypeDefinition u53
  obtain ⟨u55, u56⟩ := and_e u54
  have q57 := own_eqI u55
  have F_a_HasTypeDefinition_ordinal : Fld s s.heap a_HasTypeDefinition "java/lang/Enum" "ordinal" "I" (.int (9 : Int32)) := Fld.start ((fld_at ea_HasTypeDefinition).symm.trans q57)
  obtain ⟨u58, u59⟩ := and_e u56
  have q60 := own_eqR u58 ea_NonHierarchicalReferences
  have F_a_HasTypeDefinition_supertype : Fld s s.heap a_HasTypeDefinition "com/example/halyard/halyard/server/ReferenceType" "supertype" "Lcom/example/halyard/halyard/server/ReferenceType;" (.ref a_NonHierarchicalReferences) := Fld.start ((fld_at ea_HasTypeDefinition).symm.trans q60)
  obtain ⟨u61, u62⟩ := and_e u59
  obtain ⟨a_HasComponent, ea_HasComponent⟩ := exa_v u61
  have S_HasComponent : Sta s s.heap "com/example/halyard/halyard/server/ReferenceType" "HasComponent" "Lcom/example/halyard/halyard/server/ReferenceType;" (.ref a_HasComponent) := Sta.start ea_HasComponent (Or.inr ⟨(hw _ (List.mem_of_getElem? (i := 9) rfl)), (hw _ (List.mem_of_getElem? (i := 32) rfl))⟩)
  have E_a_HasComponent : Exa s s.heap a_HasComponent "com/example/halyard/halyard/server/ReferenceType" := Exa.start ea_HasComponent u61
  obtain ⟨u63, u64⟩ := and_e u62
  have q65 := own_eqI u63
  have F_a_HasComponent_ordinal : Fld s s.heap a_HasComponent "java/lang/Enum" "ordinal" "I" (.int (7 : Int32)) := Fld.start ((fld_at ea_HasComponent).symm.trans q65)
  obtain ⟨u66, u67⟩ := and_e u64
  obtain ⟨a_HasSubtype, ea_HasSubtype⟩ := exa_v u66
  have S_HasSubtype : Sta s s.heap "com/example/halyard/halyard/server/ReferenceType" "HasSubtype" "Lcom/example/halyard/halyard/server/ReferenceType;" (.ref a_HasSubtype) := Sta.start ea_HasSubtype (Or.inr ⟨(hw _ (List.mem_of_getElem? (i := 9) rfl)), (hw _ (List.mem_of_getElem? (i := 35) rfl))⟩)
  have E_a_HasSubtype : Exa s s.heap a_HasSubtype "com/example/halyard/halyard/server/ReferenceType" := Exa.start ea_HasSubtype u66
  obtain ⟨u68, u69⟩ := and_e u67
  have q70 := own_eqI u68
  have F_a_HasSubtype_ordinal : Fld s s.heap a_HasSubtype "java/lang/Enum" "ordinal" "I" (.int (5 : Int32)) := Fld.start ((fld_at ea_HasSubtype).symm.trans q70)
  obtain ⟨u71, u72⟩ := and_e u69
  have q73 := own_eqR u71 ea_HierarchicalReferences
  have F_a_Organizes_supertype : Fld s s.heap a_Organizes "com/example/halyard/halyard/server/ReferenceType" "supertype" "Lcom/example/halyard/halyard/server/ReferenceType;" (.ref a_HierarchicalReferences) := Fld.start ((fld_at ea_Organizes).symm.trans q73)
  obtain ⟨u74, u75⟩ := and_e u72
  have q76 := own_eqR u74 ea_HasChild
  have F_a_HasSubtype_supertype : Fld s s.heap a_HasSubtype "com/example/halyard/halyard/server/ReferenceType" "supertype" "Lcom/example/halyard/halyard/server/ReferenceType;" (.ref a_HasChild) := Fld.start ((fld_at ea_HasSubtype).symm.trans q76)
  have q77 := own_eqR u75 ea_Aggregates
  have F_a_HasComponent_supertype : Fld s s.heap a_HasComponent "com/example/halyard/halyard/server/ReferenceType" "supertype" "Lcom/example/halyard/halyard/server/ReferenceType;" (.ref a_Aggregates) := Fld.start ((fld_at ea_HasComponent).symm.trans q77)
  have hd : own_Dist a_References a_HierarchicalReferences a_HasChild a_Organizes a_Aggregates a_HasSubtype a_HasProperty a_HasComponent a_NonHierarchicalReferences a_HasTypeDefinition := ⟨Fld.ne F_a_References_ordinal F_a_HierarchicalReferences_ordinal (by decide), Fld.ne F_a_References_ordinal F_a_HasChild_ordinal (by decide), Fld.ne F_a_References_ordinal F_a_Organizes_ordinal (by decide), Fld.ne F_a_References_ordinal F_a_Aggregates_ordinal (by decide), Fld.ne F_a_References_ordinal F_a_HasSubtype_ordinal (by decide), Fld.ne F_a_References_ordinal F_a_HasProperty_ordinal (by decide), Fld.ne F_a_References_ordinal F_a_HasComponent_ordinal (by decide), Fld.ne F_a_References_ordinal F_a_NonHierarchicalReferences_ordinal (by decide), Fld.ne F_a_References_ordinal F_a_HasTypeDefinition_ordinal (by decide), Fld.ne F_a_HierarchicalReferences_ordinal F_a_HasChild_ordinal (by decide), Fld.ne F_a_HierarchicalReferences_ordinal F_a_Organizes_ordinal (by decide), Fld.ne F_a_HierarchicalReferences_ordinal F_a_Aggregates_ordinal (by decide), Fld.ne F_a_HierarchicalReferences_ordinal F_a_HasSubtype_ordinal (by decide), Fld.ne F_a_HierarchicalReferences_ordinal F_a_HasProperty_ordinal (by decide), Fld.ne F_a_HierarchicalReferences_ordinal F_a_HasComponent_ordinal (by decide), Fld.ne F_a_HierarchicalReferences_ordinal F_a_NonHierarchicalReferences_ordinal (by decide), Fld.ne F_a_HierarchicalReferences_ordinal F_a_HasTypeDefinition_ordinal (by decide), Fld.ne F_a_HasChild_ordinal F_a_Organizes_ordinal (by decide), Fld.ne F_a_HasChild_ordinal F_a_Aggregates_ordinal (by decide), Fld.ne F_a_HasChild_ordinal F_a_HasSubtype_ordinal (by decide), Fld.ne F_a_HasChild_ordinal F_a_HasProperty_ordinal (by decide), Fld.ne F_a_HasChild_ordinal F_a_HasComponent_ordinal (by decide), Fld.ne F_a_HasChild_ordinal F_a_NonHierarchicalReferences_ordinal (by decide), Fld.ne F_a_HasChild_ordinal F_a_HasTypeDefinition_ordinal (by decide), Fld.ne F_a_Organizes_ordinal F_a_Aggregates_ordinal (by decide), Fld.ne F_a_Organizes_ordinal F_a_HasSubtype_ordinal (by decide), Fld.ne F_a_Organizes_ordinal F_a_HasProperty_ordinal (by decide), Fld.ne F_a_Organizes_ordinal F_a_HasComponent_ordinal (by decide), Fld.ne F_a_Organizes_ordinal F_a_NonHierarchicalReferences_ordinal (by decide), Fld.ne F_a_Organizes_ordinal F_a_HasTypeDefinition_ordinal (by decide), Fld.ne F_a_Aggregates_ordinal F_a_HasSubtype_ordinal (by decide), Fld.ne F_a_Aggregates_ordinal F_a_HasProperty_ordinal (by decide), Fld.ne F_a_Aggregates_ordinal F_a_HasComponent_ordinal (by decide), Fld.ne F_a_Aggregates_ordinal F_a_NonHierarchicalReferences_ordinal (by decide), Fld.ne F_a_Aggregates_ordinal F_a_HasTypeDefinition_ordinal (by decide), Fld.ne F_a_HasSubtype_ordinal F_a_HasProperty_ordinal (by decide), Fld.ne F_a_HasSubtype_ordinal F_a_HasComponent_ordinal (by decide), Fld.ne F_a_HasSubtype_ordinal F_a_NonHierarchicalReferences_ordinal (by decide), Fld.ne F_a_HasSubtype_ordinal F_a_HasTypeDefinition_ordinal (by decide), Fld.ne F_a_HasProperty_ordinal F_a_HasComponent_ordinal (by decide), Fld.ne F_a_HasProperty_ordinal F_a_NonHierarchicalReferences_ordinal (by decide), Fld.ne F_a_HasProperty_ordinal F_a_HasTypeDefinition_ordinal (by decide), Fld.ne F_a_HasComponent_ordinal F_a_NonHierarchicalReferences_ordinal (by decide), Fld.ne F_a_HasComponent_ordinal F_a_HasTypeDefinition_ordinal (by decide), Fld.ne F_a_NonHierarchicalReferences_ordinal F_a_HasTypeDefinition_ordinal (by decide)⟩
  obtain ⟨n, o, h1, h2, h3, _, L, rfl, ⟨rfl, N⟩, hq⟩ := rm0 l s _ hw tables_1 i0 i1 a_References a_HierarchicalReferences a_HasChild a_Organizes a_Aggregates a_HasSubtype a_HasProperty a_HasComponent a_NonHierarchicalReferences a_HasTypeDefinition s.heap s.heap.size (Nat.le_refl _) S_References E_a_References S_Organizes E_a_Organizes F_a_References_supertype S_Aggregates E_a_Aggregates S_HierarchicalReferences E_a_HierarchicalReferences S_HasChild E_a_HasChild F_a_Aggregates_supertype F_a_HasChild_supertype S_NonHierarchicalReferences E_a_NonHierarchicalReferences F_a_NonHierarchicalReferences_supertype S_HasProperty E_a_HasProperty F_a_HasProperty_supertype F_a_HierarchicalReferences_supertype S_HasTypeDefinition E_a_HasTypeDefinition F_a_HasTypeDefinition_supertype S_HasComponent E_a_HasComponent S_HasSubtype E_a_HasSubtype F_a_Organizes_supertype F_a_HasSubtype_supertype F_a_HasComponent_supertype hd p e ha hc hk s m _ below hf ((Spec.applies_iff_loose hf).mp happ).1 ⟨rfl, State.Warmed39.refl s, rfl⟩ trivial
  refine ⟨n, _, h1, h2, h3, hpost _ _ _ _ _ _ ⟨Cond.after_iff.mpr rfl, Cond.after_iff.mpr (eq_i res_at (Term.int_eval (1)) rfl), trivial⟩ ⟨hq.1, hq.2.1, (hq.2.2.sift fun y hy => Or.inr (N y hy)).mono (by decide) (by decide)⟩⟩
theorem main_1_1 : Claimed_1_1 := comes_1 fun _ _ _ _ _ _ h hF => ⟨h.1, hF⟩
theorem main_1_2 : Claimed_1_2 := comes_1 fun _ _ _ _ _ _ h hF => ⟨h.2.1, hF⟩
end Jvm.Pilot.@@N@@
namespace Jvm.Pilot.@@N@@
open Jvm Jvm.ClassFile Sem Op Lib Jvm.Free Jvm.Stand Jvm.Pilot.@@N@@.Jvm.D
/-! MADE BY PROGRAM (witnessworld.py) out of the Statement's table words and the real class files: 12 classes; the members and pool entries that the words name. The judged class is class 1, her method 3. -/
namespace start1
open Jvm.ClassFile
def u (s : String) : CpInfo := .utf8 (stringToUtf16 s)
/-- a pool by its gaps: so many unusable entries, then the entry; so many at the end -/
def gap : Nat → List CpInfo → List CpInfo
  | 0, r => r
  | n + 1, r => .unusable :: gap n r
def poolList (es : List (Nat × CpInfo)) (last : Nat) : List CpInfo := es.foldr (fun e r => gap e.1 (e.2 :: r)) (gap last [])
def pool (es : List (Nat × CpInfo)) (last : Nat) : Array CpInfo := ⟨poolList es last⟩
def fileOf (pool : Array CpInfo) (this : Nat) (attrs : Array Attribute := #[]) (ms : Array MethodInfo := #[]) (fl : Nat := 33) (sup : Nat := 0) (ifs : Array Nat := #[]) (fds : Array FieldInfo := #[]) : ClassFile where
  minorVersion := 0
  majorVersion := 65
  constantPool := pool
  accessFlags := fl
  thisClass := this
  superClass := sup
  interfaces := ifs
  fields := fds
  methods := ms
  attributes := attrs
def plain (name : String) (sup : Option ClassId) : Class where
  name := name
  kind := .ordinary
  loader := none
  accessFlags := 33
  super := sup
  interfaces := #[]
  cf := none
  fields := #[]
  methods := #[]
  instanceTypes := #[]
  staticTypes := #[]
  resolved := #[]
  callSites := []
  init := .initialized
  statics := none
  mirror := none

def pool0 : Array CpInfo := pool [(5, u "<init>"), (0, u "()V"), (1, .class_ 10), (1, u "java/lang/Object")] 113

def k0m0 : Method := { name := "<init>", desc := "()V", sig := { parameters := [], returnType := none }, accessFlags := 1, code := none }
/-- java/lang/Object -/
def k0 : Class := { plain "java/lang/Object" none with
  accessFlags := 33
  interfaces := #[]
  cf := some (fileOf pool0 8 #[] #[{ accessFlags := 1, nameIndex := 5, descriptorIndex := 6, attributes := #[] }] 33 0 #[] #[])
  fields := #[]
  methods := #[k0m0]
  instanceTypes := #[]
  staticTypes := #[]
  resolved := Array.replicate 124 none
  statics := none }

def pool1 : Array CpInfo := pool [(2, .class_ 4), (1, u "java/lang/Object"), (0, u "<init>"), (0, u "()V"), (0, .fieldref 8 9), (0, .class_ 10), (0, .nameAndType 11 12), (0, u "com/example/halyard/halyard/server/ReferenceType"), (0, u "References"), (0, u "Lcom/example/halyard/halyard/server/ReferenceType;"), (0, .fieldref 8 14), (0, .nameAndType 15 12), (0, u "HierarchicalReferences"), (0, .fieldref 8 17), (0, .nameAndType 18 12), (0, u "HasChild"), (0, .fieldref 8 20), (0, .nameAndType 21 12), (0, u "Organizes"), (0, .fieldref 8 23), (0, .nameAndType 24 12), (0, u "Aggregates"), (0, .fieldref 8 26), (0, .nameAndType 27 12), (0, u "HasSubtype"), (0, .fieldref 8 29), (0, .nameAndType 30 12), (0, u "HasProperty"), (0, .fieldref 8 32), (0, .nameAndType 33 12), (0, u "HasComponent"), (0, .fieldref 8 35), (0, .nameAndType 36 12), (0, u "NonHierarchicalReferences"), (0, .fieldref 8 38), (0, .nameAndType 39 12), (0, u "HasTypeDefinition"), (0, .integer 2147483647), (0, .methodref 42 43), (0, .class_ 44), (0, .nameAndType 45 46), (0, u "com/example/halyard/halyard/server/ReferenceTypeIsSubtypeOfPinLaw"), (0, u "ancestors"), (0, u "(I)I"), (0, .methodref 42 48), (0, .nameAndType 49 50), (0, u "pick"), (0, u "(I)Lcom/example/halyard/halyard/server/ReferenceType;"), (0, .methodref 8 52), (0, .nameAndType 53 54), (0, u "isSubtypeOf"), (0, u "(Lcom/example/halyard/halyard/server/ReferenceType;)Z"), (3, u "law"), (0, u "(II)Z")] 2

def k1m0 : Method := { name := "<init>", desc := "()V", sig := { parameters := [], returnType := none }, accessFlags := 2, code := none }
def k1c1 : Code := { maxStack := 2, maxLocals := 1, code := method_2_code, exceptionTable := #[], attributes := #[] }
def k1m1 : Method := { name := "pick", desc := "(I)Lcom/example/halyard/halyard/server/ReferenceType;", sig := { parameters := [.int], returnType := some (.object "com/example/halyard/halyard/server/ReferenceType") }, accessFlags := 10, code := some k1c1 }
def k1c2 : Code := { maxStack := 2, maxLocals := 1, code := method_3_code, exceptionTable := #[], attributes := #[] }
def k1m2 : Method := { name := "ancestors", desc := "(I)I", sig := { parameters := [.int], returnType := some .int }, accessFlags := 10, code := some k1c2 }
def k1c3 : Code := { maxStack := 2, maxLocals := 6, code := code, exceptionTable := #[], attributes := #[] }
def k1m3 : Method := { name := "law", desc := "(II)Z", sig := { parameters := [.int, .int], returnType := some .boolean }, accessFlags := 9, code := some k1c3 }
/-- com/example/halyard/halyard/server/ReferenceTypeIsSubtypeOfPinLaw -/
def k1 : Class := { plain "com/example/halyard/halyard/server/ReferenceTypeIsSubtypeOfPinLaw" (some 0) with
  accessFlags := 49
  interfaces := #[]
  cf := some (fileOf pool1 42 #[] #[{ accessFlags := 2, nameIndex := 5, descriptorIndex := 6, attributes := #[] }, { accessFlags := 10, nameIndex := 49, descriptorIndex := 50, attributes := #[] }, { accessFlags := 10, nameIndex := 45, descriptorIndex := 46, attributes := #[] }, { accessFlags := 9, nameIndex := 58, descriptorIndex := 59, attributes := #[] }] 49 2 #[] #[])
  fields := #[]
  methods := #[k1m0, k1m1, k1m2, k1m3]
  instanceTypes := #[]
  staticTypes := #[]
  resolved := Array.replicate 62 none
  statics := none }

def pool2 : Array CpInfo := pool [(1, .class_ 2), (0, u "java/lang/constant/Constable"), (0, .class_ 4), (0, u "java/lang/Object")] 6

/-- java/lang/constant/Constable -/
def k2 : Class := { plain "java/lang/constant/Constable" (some 0) with
  accessFlags := 1537
  interfaces := #[]
  cf := some (fileOf pool2 1 #[] #[] 1537 3 #[] #[])
  fields := #[]
  methods := #[]
  instanceTypes := #[]
  staticTypes := #[]
  resolved := Array.replicate 11 none
  statics := none }

def pool3 : Array CpInfo := pool [(1, .class_ 2), (0, u "java/lang/Comparable"), (0, .class_ 4), (0, u "java/lang/Object")] 7

/-- java/lang/Comparable -/
def k3 : Class := { plain "java/lang/Comparable" (some 0) with
  accessFlags := 1537
  interfaces := #[]
  cf := some (fileOf pool3 1 #[] #[] 1537 3 #[] #[])
  fields := #[]
  methods := #[]
  instanceTypes := #[]
  staticTypes := #[]
  resolved := Array.replicate 12 none
  statics := none }

def pool4 : Array CpInfo := pool [(1, .class_ 2), (0, u "java/io/Serializable"), (0, .class_ 4), (0, u "java/lang/Object")] 2

/-- java/io/Serializable -/
def k4 : Class := { plain "java/io/Serializable" (some 0) with
  accessFlags := 1537
  interfaces := #[]
  cf := some (fileOf pool4 1 #[] #[] 1537 3 #[] #[])
  fields := #[]
  methods := #[]
  instanceTypes := #[]
  staticTypes := #[]
  resolved := Array.replicate 7 none
  statics := none }

def pool5 : Array CpInfo := pool [(2, .class_ 4), (1, u "java/lang/Enum"), (0, u "name"), (0, u "Ljava/lang/String;"), (2, u "ordinal"), (0, u "I"), (1, .class_ 14), (1, u "java/lang/Object"), (4, u "hash"), (86, .class_ 108), (1, u "java/lang/Enum$EnumDesc"), (2, .class_ 112), (0, u "java/lang/constant/Constable"), (0, .class_ 114), (0, u "java/lang/Comparable"), (0, .class_ 116), (0, u "java/io/Serializable")] 87

/-- java/lang/Enum -/
def k5 : Class := { plain "java/lang/Enum" (some 0) with
  accessFlags := 1057
  interfaces := #[2, 3, 4]
  cf := some (fileOf pool5 2 #[.nestMembers #[106]] #[] 1057 12 #[111, 113, 115] #[{ accessFlags := 18, nameIndex := 5, descriptorIndex := 6, attributes := #[] }, { accessFlags := 18, nameIndex := 9, descriptorIndex := 10, attributes := #[] }, { accessFlags := 2, nameIndex := 19, descriptorIndex := 10, attributes := #[] }])
  fields := #[{ name := "name", type := (.object "java/lang/String"), accessFlags := 18, slot := 0, constantValue := 0 }, { name := "ordinal", type := .int, accessFlags := 18, slot := 1, constantValue := 0 }, { name := "hash", type := .int, accessFlags := 2, slot := 2, constantValue := 0 }]
  methods := #[]
  instanceTypes := #[(.object "java/lang/String"), .int, .int]
  staticTypes := #[]
  resolved := Array.replicate 204 none
  statics := none }

def pool6 : Array CpInfo := pool [(1, .class_ 2), (0, u "com/example/halyard/halyard/server/ReferenceType"), (2, u "References"), (0, u "Lcom/example/halyard/halyard/server/ReferenceType;"), (2, u "HierarchicalReferences"), (2, u "HasChild"), (2, u "Organizes"), (2, u "Aggregates"), (2, u "HasSubtype"), (2, u "HasProperty"), (2, u "HasComponent"), (2, u "NonHierarchicalReferences"), (2, u "HasTypeDefinition"), (2, u "$VALUES"), (0, u "[Lcom/example/halyard/halyard/server/ReferenceType;"), (6, .class_ 46), (1, u "java/lang/Enum"), (14, u "nodeId"), (0, u "Lcom/example/halyard/halyard/types/NodeId;"), (0, .fieldref 1 64), (0, .nameAndType 65 6), (0, u "supertype"), (2, u "isAbstract"), (0, u "Z"), (2, u "inverseName"), (0, u "Ljava/lang/String;"), (99, u "isSubtypeOf"), (0, u "(Lcom/example/halyard/halyard/server/ReferenceType;)Z")] 30

def k6c0 : Code := { maxStack := 2, maxLocals := 3, code := prog_116_method_8_code, exceptionTable := #[], attributes := #[] }
def k6m0 : Method := { name := "isSubtypeOf", desc := "(Lcom/example/halyard/halyard/server/ReferenceType;)Z", sig := { parameters := [(.object "com/example/halyard/halyard/server/ReferenceType")], returnType := some .boolean }, accessFlags := 0, code := some k6c0 }
/-- com/example/halyard/halyard/server/ReferenceType -/
def k6 : Class := { plain "com/example/halyard/halyard/server/ReferenceType" (some 5) with
  accessFlags := 16432
  interfaces := #[]
  cf := some (fileOf pool6 1 #[] #[{ accessFlags := 0, nameIndex := 173, descriptorIndex := 174, attributes := #[] }] 16432 44 #[] #[{ accessFlags := 16409, nameIndex := 5, descriptorIndex := 6, attributes := #[] }, { accessFlags := 16409, nameIndex := 9, descriptorIndex := 6, attributes := #[] }, { accessFlags := 16409, nameIndex := 12, descriptorIndex := 6, attributes := #[] }, { accessFlags := 16409, nameIndex := 15, descriptorIndex := 6, attributes := #[] }, { accessFlags := 16409, nameIndex := 18, descriptorIndex := 6, attributes := #[] }, { accessFlags := 16409, nameIndex := 21, descriptorIndex := 6, attributes := #[] }, { accessFlags := 16409, nameIndex := 24, descriptorIndex := 6, attributes := #[] }, { accessFlags := 16409, nameIndex := 27, descriptorIndex := 6, attributes := #[] }, { accessFlags := 16409, nameIndex := 30, descriptorIndex := 6, attributes := #[] }, { accessFlags := 16409, nameIndex := 33, descriptorIndex := 6, attributes := #[] }, { accessFlags := 18, nameIndex := 61, descriptorIndex := 62, attributes := #[] }, { accessFlags := 18, nameIndex := 65, descriptorIndex := 6, attributes := #[] }, { accessFlags := 18, nameIndex := 68, descriptorIndex := 69, attributes := #[] }, { accessFlags := 18, nameIndex := 72, descriptorIndex := 73, attributes := #[] }, { accessFlags := 4122, nameIndex := 36, descriptorIndex := 37, attributes := #[] }])
  fields := #[{ name := "References", type := (.object "com/example/halyard/halyard/server/ReferenceType"), accessFlags := 16409, slot := 0, constantValue := 0 }, { name := "HierarchicalReferences", type := (.object "com/example/halyard/halyard/server/ReferenceType"), accessFlags := 16409, slot := 1, constantValue := 0 }, { name := "HasChild", type := (.object "com/example/halyard/halyard/server/ReferenceType"), accessFlags := 16409, slot := 2, constantValue := 0 }, { name := "Organizes", type := (.object "com/example/halyard/halyard/server/ReferenceType"), accessFlags := 16409, slot := 3, constantValue := 0 }, { name := "Aggregates", type := (.object "com/example/halyard/halyard/server/ReferenceType"), accessFlags := 16409, slot := 4, constantValue := 0 }, { name := "HasSubtype", type := (.object "com/example/halyard/halyard/server/ReferenceType"), accessFlags := 16409, slot := 5, constantValue := 0 }, { name := "HasProperty", type := (.object "com/example/halyard/halyard/server/ReferenceType"), accessFlags := 16409, slot := 6, constantValue := 0 }, { name := "HasComponent", type := (.object "com/example/halyard/halyard/server/ReferenceType"), accessFlags := 16409, slot := 7, constantValue := 0 }, { name := "NonHierarchicalReferences", type := (.object "com/example/halyard/halyard/server/ReferenceType"), accessFlags := 16409, slot := 8, constantValue := 0 }, { name := "HasTypeDefinition", type := (.object "com/example/halyard/halyard/server/ReferenceType"), accessFlags := 16409, slot := 9, constantValue := 0 }, { name := "nodeId", type := (.object "com/example/halyard/halyard/types/NodeId"), accessFlags := 18, slot := 3, constantValue := 0 }, { name := "supertype", type := (.object "com/example/halyard/halyard/server/ReferenceType"), accessFlags := 18, slot := 4, constantValue := 0 }, { name := "isAbstract", type := .boolean, accessFlags := 18, slot := 5, constantValue := 0 }, { name := "inverseName", type := (.object "java/lang/String"), accessFlags := 18, slot := 6, constantValue := 0 }, { name := "$VALUES", type := (.array (.object "com/example/halyard/halyard/server/ReferenceType")), accessFlags := 4122, slot := 10, constantValue := 0 }]
  methods := #[k6m0]
  instanceTypes := #[(.object "java/lang/String"), .int, .int, (.object "com/example/halyard/halyard/types/NodeId"), (.object "com/example/halyard/halyard/server/ReferenceType"), .boolean, (.object "java/lang/String")]
  staticTypes := #[(.object "com/example/halyard/halyard/server/ReferenceType"), (.object "com/example/halyard/halyard/server/ReferenceType"), (.object "com/example/halyard/halyard/server/ReferenceType"), (.object "com/example/halyard/halyard/server/ReferenceType"), (.object "com/example/halyard/halyard/server/ReferenceType"), (.object "com/example/halyard/halyard/server/ReferenceType"), (.object "com/example/halyard/halyard/server/ReferenceType"), (.object "com/example/halyard/halyard/server/ReferenceType"), (.object "com/example/halyard/halyard/server/ReferenceType"), (.object "com/example/halyard/halyard/server/ReferenceType"), (.array (.object "com/example/halyard/halyard/server/ReferenceType"))]
  resolved := Array.replicate 205 none
  statics := some 0 }

def pool7 : Array CpInfo := pool [(1, u "java/lang/Cloneable"), (0, .class_ 1), (0, u "java/lang/Object"), (0, .class_ 3)] 3

/-- java/lang/Cloneable -/
def k7 : Class := { plain "java/lang/Cloneable" (some 0) with
  accessFlags := 1537
  interfaces := #[]
  cf := some (fileOf pool7 2 #[] #[] 1537 4 #[] #[])
  fields := #[]
  methods := #[]
  instanceTypes := #[]
  staticTypes := #[]
  resolved := Array.replicate 8 none
  statics := none }

/-- the primitive byte -/
def k8 : Class := { plain "byte" none with kind := .primitive 'B', accessFlags := 0x411 }
/-- [B -/
def k9 : Class := { plain "[B" (some 0) with kind := .array 8 .byte, interfaces := #[7, 4], accessFlags := 1041 }

/-- the primitive int -/
def k10 : Class := { plain "int" none with kind := .primitive 'I', accessFlags := 0x411 }
/-- [I -/
def k11 : Class := { plain "[I" (some 0) with kind := .array 10 .int, interfaces := #[7, 4], accessFlags := 1041 }

def heap : Heap := #[{ cls := 6, slots := #[.ref 1, .ref 2, .ref 3, .ref 4, .ref 5, .ref 6, .ref 7, .ref 8, .ref 9, .ref 10, .null], vm := .statics 6 },
  { cls := 6, slots := #[.null, .int 0, .int 0, .null, .null, .int 0, .null], vm := .none },
  { cls := 6, slots := #[.null, .int 1, .int 0, .null, .ref 1, .int 0, .null], vm := .none },
  { cls := 6, slots := #[.null, .int 2, .int 0, .null, .ref 2, .int 0, .null], vm := .none },
  { cls := 6, slots := #[.null, .int 3, .int 0, .null, .ref 2, .int 0, .null], vm := .none },
  { cls := 6, slots := #[.null, .int 4, .int 0, .null, .ref 3, .int 0, .null], vm := .none },
  { cls := 6, slots := #[.null, .int 5, .int 0, .null, .ref 3, .int 0, .null], vm := .none },
  { cls := 6, slots := #[.null, .int 6, .int 0, .null, .ref 5, .int 0, .null], vm := .none },
  { cls := 6, slots := #[.null, .int 7, .int 0, .null, .ref 5, .int 0, .null], vm := .none },
  { cls := 6, slots := #[.null, .int 8, .int 0, .null, .ref 1, .int 0, .null], vm := .none },
  { cls := 6, slots := #[.null, .int 9, .int 0, .null, .ref 9, .int 0, .null], vm := .none }]
def classes : Array Class := #[k0, k1, k2, k3, k4, k5, k6, k7, k8, k9, k10, k11]
def interned : List (Array UInt16 × Addr) := []
def slotsUsed : Nat := 81
def theMethod : MethodId := ⟨1, 3⟩
def args0 : Array Value := #[.int 1, .int 5]
def aboutOver (below : List Frame) : State where
  vm := { classes := classes, interned := interned.toArray }
  heap := heap
  slotsUsed := slotsUsed
  threads := #[{ frames := .invoking theMethod args0 :: below }]
def below0 : List Frame := [.native { method := ⟨0, 0⟩, args := #[] }]
def about1 : State := aboutOver below0
def p0 : Program := .bare "" "" ""
def e0 : Env := launch0.env 0 0 0
theorem w_frames : about1.frames = Frame.invoking theMethod args0 :: below0 := rfl
set_option maxRecDepth 65536 in
theorem w_args : argsFit about1.vm theMethod args0 = true := by decide +kernel
set_option maxRecDepth 65536 in
theorem w_heap : heapFits about1 = true := by decide +kernel
set_option maxRecDepth 65536 in
theorem w_runnable : about1.curStatus? = some .runnable := by decide +kernel
set_option maxRecDepth 65536 in
theorem w_alone : about1.alone = true := by decide +kernel
set_option maxRecDepth 65536 in
theorem w_named : about1.methodNamed? x = some theMethod := by decide +kernel
set_option maxRecDepth 65536 in
theorem w_hears : about1.hears theMethod below0 = true := by decide +kernel
set_option maxRecDepth 65536 in
theorem w_ripe : about1.ripe theMethod args0 below0 = true := by decide +kernel
theorem w_running : about1.status = .running := rfl
set_option maxRecDepth 65536 in
theorem w_room : about1.hasRoom e0.platform room_1 = true :=
  launch0.hasRoom_least _ room_1 (by decide +kernel) (by decide +kernel) (by decide +kernel) (by decide +kernel) (by decide +kernel) (by decide +kernel)
theorem allAtoms_all (ts : List Jvm.Cond) (a : Array Jvm.Value) (st : Jvm.State) : (allAtoms ts).before a st = ts.all (fun c => c.before a st) := by
  induction ts with
  | nil => rfl
  | cons c t ih =>
    show (Jvm.Cond.and c (allAtoms t)).before a st = _
    rw [Jvm.Cond.before_and, ih, List.all_cons]
def words1 : List Jvm.Cond := Jvm.Cond.code x code maxLocals ret :: tables_1
/-- a 'code' word, met by the world's own term for the bytes: nothing is compared byte by byte -/
theorem code_word {y : MethodName} {bytes : ByteArray} {mx : Nat} {rt : Option FieldType} {a : Array Value} {s : State} {m : MethodId} {meth : Method} {c : Code} (h1 : s.methodNamed? y = some m) (h2 : s.vm.method? m = some meth) (h3 : meth.code = some c) (h4 : c.code = bytes)
    (h5 : (c.maxLocals == mx && c.exceptionTable.isEmpty && decide (c.maxStack ≤ mostOperands) && decide (meth.sig.returnType = rt) && !meth.locks && decide (parseMethodDescriptor y.desc = some meth.sig)) = true) : (Jvm.Cond.code y bytes mx rt).before a s = true := by
  simp only [Bool.and_eq_true, beq_iff_eq, Bool.not_eq_true', decide_eq_true_eq] at h5
  obtain ⟨⟨⟨⟨⟨g1, g2⟩, g3⟩, g4⟩, g5⟩, g6⟩ := h5
  simp [Cond.before, Cond.holds, Cond.value, h1, h2, h3, h4, g1, g2, g3, g4, g5, g6]
def isCode : Jvm.Cond → Bool
  | .code _ _ _ _ => true
  | _ => false
theorem all_split {L : List Jvm.Cond} {P : Jvm.Cond → Bool} (h1 : L.all (fun c => isCode c || P c) = true) (h2 : ∀ c ∈ L.filter isCode, P c = true) : L.all P = true := by
  refine List.all_eq_true.mpr fun c hc => ?_
  have h := List.all_eq_true.mp h1 c hc
  rcases Bool.eq_false_or_eq_true (isCode c) with hi | hi
  · exact h2 c (List.mem_filter.mpr ⟨hc, hi⟩)
  · simpa [hi] using h
set_option maxRecDepth 65536 in
theorem w_c0 : (Jvm.Cond.code x code maxLocals ret).before args0 about1 = true := code_word (m := ⟨1, 3⟩) (meth := k1m3) (c := k1c3) (by decide +kernel) rfl rfl rfl (by decide +kernel)
set_option maxRecDepth 65536 in
theorem w_c1 : (Jvm.Cond.code ({ cls := "com/example/halyard/halyard/server/ReferenceTypeIsSubtypeOfPinLaw", name := "ancestors", desc := "(I)I" } : Jvm.MethodName) method_3_code (1 : Nat) (Option.some Jvm.ClassFile.FieldType.int)).before args0 about1 = true := code_word (m := ⟨1, 2⟩) (meth := k1m2) (c := k1c2) (by decide +kernel) rfl rfl rfl (by decide +kernel)
set_option maxRecDepth 65536 in
theorem w_c2 : (Jvm.Cond.code ({ cls := "com/example/halyard/halyard/server/ReferenceTypeIsSubtypeOfPinLaw", name := "pick", desc := "(I)Lcom/example/halyard/halyard/server/ReferenceType;" } : Jvm.MethodName) method_2_code (1 : Nat) (Option.some (Jvm.ClassFile.FieldType.object "com/example/halyard/halyard/server/ReferenceType"))).before args0 about1 = true := code_word (m := ⟨1, 1⟩) (meth := k1m1) (c := k1c1) (by decide +kernel) rfl rfl rfl (by decide +kernel)
set_option maxRecDepth 65536 in
theorem w_c3 : (Jvm.Cond.code ({ cls := "com/example/halyard/halyard/server/ReferenceType", name := "isSubtypeOf", desc := "(Lcom/example/halyard/halyard/server/ReferenceType;)Z" } : Jvm.MethodName) prog_116_method_8_code (3 : Nat) (Option.some Jvm.ClassFile.FieldType.boolean)).before args0 about1 = true := code_word (m := ⟨6, 0⟩) (meth := k6m0) (c := k6c0) (by decide +kernel) rfl rfl rfl (by decide +kernel)
def codes1 : List Jvm.Cond := [Jvm.Cond.code x code maxLocals ret, Jvm.Cond.code ({ cls := "com/example/halyard/halyard/server/ReferenceTypeIsSubtypeOfPinLaw", name := "ancestors", desc := "(I)I" } : Jvm.MethodName) method_3_code (1 : Nat) (Option.some Jvm.ClassFile.FieldType.int), Jvm.Cond.code ({ cls := "com/example/halyard/halyard/server/ReferenceTypeIsSubtypeOfPinLaw", name := "pick", desc := "(I)Lcom/example/halyard/halyard/server/ReferenceType;" } : Jvm.MethodName) method_2_code (1 : Nat) (Option.some (Jvm.ClassFile.FieldType.object "com/example/halyard/halyard/server/ReferenceType")), Jvm.Cond.code ({ cls := "com/example/halyard/halyard/server/ReferenceType", name := "isSubtypeOf", desc := "(Lcom/example/halyard/halyard/server/ReferenceType;)Z" } : Jvm.MethodName) prog_116_method_8_code (3 : Nat) (Option.some Jvm.ClassFile.FieldType.boolean)]
set_option maxRecDepth 65536 in
theorem codes_eq : words1.filter isCode = codes1 := rfl
theorem w_codes : ∀ c ∈ words1.filter isCode, c.before args0 about1 = true := by
  rw [codes_eq]
  intro c hc
  simp only [codes1, List.mem_cons, List.not_mem_nil, or_false] at hc
  rcases hc with rfl | rfl | rfl | rfl
  · exact w_c0
  · exact w_c1
  · exact w_c2
  · exact w_c3
set_option maxRecDepth 65536 in
theorem w_t1 : (words1.take 24).all (fun c => isCode c || c.before args0 about1) = true := by decide +kernel
set_option maxRecDepth 65536 in
theorem w_t2 : (words1.drop 24).all (fun c => isCode c || c.before args0 about1) = true := by decide +kernel
theorem w_tables : (allAtoms (Jvm.Cond.code x code maxLocals ret :: tables_1)).before args0 about1 = true := by
  rw [allAtoms_all]
  show words1.all (fun c => c.before args0 about1) = true
  refine all_split ?_ w_codes
  rw [← List.take_append_drop 24 words1, List.all_append, w_t1, w_t2]
  rfl
set_option maxRecDepth 65536 in
theorem w_case : (Jvm.Cond.and given_1 narrow_1).before args0 about1 = true := by decide +kernel
theorem w_applies : (headSpec (Jvm.Cond.code x code maxLocals ret :: tables_1) room_1).applies x e0.platform about1 = true :=
  (Spec.applies_iff w_frames).mpr ⟨w_running, w_runnable, w_alone, w_named, w_hears, w_ripe, w_room, w_tables⟩
theorem atStart : AtStart classFile x code maxLocals ret World_1 tables_1 room_1 Calls_1 rest_1 Pre_1 launch0 p0 e0 about1 theMethod args0 below0 :=
  ⟨lists_1, trivial, launch0.admits_env _ _ _, launch0.least_env, fairChoices_fair.cas, fairChoices_fair.clock, w_frames, w_args, w_heap, w_applies, trivial, trivial, w_case⟩
end start1
theorem witness_1 : WitnessClaimed_1 := ⟨start1.p0, start1.e0, start1.about1, start1.theMethod, start1.args0, start1.below0, start1.atStart⟩
end Jvm.Pilot.@@N@@
