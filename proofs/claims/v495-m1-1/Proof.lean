import JvmDerived
import JvmDerived.Pilot.@@N@@Statement
import JvmDerived.Pilot.@@N@@Code
set_option linter.unusedVariables false
set_option linter.unusedSimpArgs false
namespace Jvm.Pilot.@@N@@
open Jvm Jvm.ClassFile Sem Op Lib Jvm.Free Jvm.Stand Jvm.LawKit Jvm.RoadKit Bundle Jvm.Pilot.@@N@@.Jvm.D
/-- from A the run comes to B -/
def Go (p : Program) (e : Env) (below : List Frame) (A B : State) : Prop := ∀ t, Steps p.tables e below B t → Steps p.tables e below A t
def own_b (P : Prop) [Decidable P] : Int32 := if P then 1 else 0
theorem own_b1 {P : Prop} [Decidable P] (h : P) : ¬ own_b P = (0 : Int32) := by simp [own_b, h]
theorem own_b0 {P : Prop} [Decidable P] (h : ¬ P) : own_b P = (0 : Int32) := by simp [own_b, h]
theorem own_bt {P : Prop} [Decidable P] (h : P) : own_b P = (1 : Int32) := by simp [own_b, h]
theorem own_nb {P : Prop} [Decidable P] : nar .boolean (own_b P) = own_b P := by by_cases h : P <;> simp [own_b, h] <;> decide
theorem own_beq {P R : Prop} [Decidable P] [Decidable R] (h : P ↔ R) : own_b P = own_b R := by by_cases q : P <;> simp [own_b, q, ← h]
theorem d1_0 : decode prog_92_method_1_code 0 = .ok (.aload_n 0, 1) := by decide +kernel
theorem d1_1 : decode prog_92_method_1_code 1 = .ok (.invokespecial 1, 3) := by decide +kernel
theorem d1_4 : decode prog_92_method_1_code 4 = .ok (.aload_n 0, 1) := by decide +kernel
theorem d1_5 : decode prog_92_method_1_code 5 = .ok (.lload_n 1, 1) := by decide +kernel
theorem d1_6 : decode prog_92_method_1_code 6 = .ok (.putfield 7, 3) := by decide +kernel
theorem d1_9 : decode prog_92_method_1_code 9 = .ok (.aload_n 0, 1) := by decide +kernel
theorem d1_10 : decode prog_92_method_1_code 10 = .ok (.lload_n 3, 1) := by decide +kernel
theorem d1_11 : decode prog_92_method_1_code 11 = .ok (.putfield 13, 3) := by decide +kernel
theorem d1_14 : decode prog_92_method_1_code 14 = .ok (.return_, 1) := by decide +kernel
theorem d3_0 : decode prog_92_method_6_code 0 = .ok (.aload_n 1, 1) := by decide +kernel
theorem d3_1 : decode prog_92_method_6_code 1 = .ok (.instanceof 8, 3) := by decide +kernel
theorem d3_4 : decode prog_92_method_6_code 4 = .ok (.ifCond .eq 36, 3) := by decide +kernel
theorem d3_7 : decode prog_92_method_6_code 7 = .ok (.aload_n 1, 1) := by decide +kernel
theorem d3_8 : decode prog_92_method_6_code 8 = .ok (.checkcast 8, 3) := by decide +kernel
theorem d3_11 : decode prog_92_method_6_code 11 = .ok (.astore_n 2, 1) := by decide +kernel
theorem d3_12 : decode prog_92_method_6_code 12 = .ok (.aload_n 2, 1) := by decide +kernel
theorem d3_13 : decode prog_92_method_6_code 13 = .ok (.getfield 7, 3) := by decide +kernel
theorem d3_16 : decode prog_92_method_6_code 16 = .ok (.aload_n 0, 1) := by decide +kernel
theorem d3_17 : decode prog_92_method_6_code 17 = .ok (.getfield 7, 3) := by decide +kernel
theorem d3_20 : decode prog_92_method_6_code 20 = .ok (.lcmp, 1) := by decide +kernel
theorem d3_21 : decode prog_92_method_6_code 21 = .ok (.ifCond .ne 19, 3) := by decide +kernel
theorem d3_24 : decode prog_92_method_6_code 24 = .ok (.aload_n 2, 1) := by decide +kernel
theorem d3_25 : decode prog_92_method_6_code 25 = .ok (.getfield 13, 3) := by decide +kernel
theorem d3_28 : decode prog_92_method_6_code 28 = .ok (.aload_n 0, 1) := by decide +kernel
theorem d3_29 : decode prog_92_method_6_code 29 = .ok (.getfield 13, 3) := by decide +kernel
theorem d3_32 : decode prog_92_method_6_code 32 = .ok (.lcmp, 1) := by decide +kernel
theorem d3_33 : decode prog_92_method_6_code 33 = .ok (.ifCond .ne 7, 3) := by decide +kernel
theorem d3_36 : decode prog_92_method_6_code 36 = .ok (.iconst 1, 1) := by decide +kernel
theorem d3_37 : decode prog_92_method_6_code 37 = .ok (.goto 4, 3) := by decide +kernel
theorem d3_40 : decode prog_92_method_6_code 40 = .ok (.iconst 0, 1) := by decide +kernel
theorem d3_41 : decode prog_92_method_6_code 41 = .ok (.ireturn, 1) := by decide +kernel
theorem d4_0 : decode jdk_35_method_24_code 0 = .ok (.sipush 128, 3) := by decide +kernel
theorem d4_3 : decode jdk_35_method_24_code 3 = .ok (.istore_n 2, 1) := by decide +kernel
theorem d4_4 : decode jdk_35_method_24_code 4 = .ok (.lload_n 0, 1) := by decide +kernel
theorem d4_5 : decode jdk_35_method_24_code 5 = .ok (.ldc2_w 230, 3) := by decide +kernel
theorem d4_8 : decode jdk_35_method_24_code 8 = .ok (.lcmp, 1) := by decide +kernel
theorem d4_9 : decode jdk_35_method_24_code 9 = .ok (.ifCond .lt 22, 3) := by decide +kernel
theorem d4_12 : decode jdk_35_method_24_code 12 = .ok (.lload_n 0, 1) := by decide +kernel
theorem d4_13 : decode jdk_35_method_24_code 13 = .ok (.ldc2_w 232, 3) := by decide +kernel
theorem d4_16 : decode jdk_35_method_24_code 16 = .ok (.lcmp, 1) := by decide +kernel
theorem d4_17 : decode jdk_35_method_24_code 17 = .ok (.ifCond .gt 14, 3) := by decide +kernel
theorem d4_20 : decode jdk_35_method_24_code 20 = .ok (.getstatic 234, 3) := by decide +kernel
theorem d4_23 : decode jdk_35_method_24_code 23 = .ok (.lload_n 0, 1) := by decide +kernel
theorem d4_24 : decode jdk_35_method_24_code 24 = .ok (.l2i, 1) := by decide +kernel
theorem d4_25 : decode jdk_35_method_24_code 25 = .ok (.sipush 128, 3) := by decide +kernel
theorem d4_28 : decode jdk_35_method_24_code 28 = .ok (.iadd, 1) := by decide +kernel
theorem d4_29 : decode jdk_35_method_24_code 29 = .ok (.aaload, 1) := by decide +kernel
theorem d4_30 : decode jdk_35_method_24_code 30 = .ok (.areturn, 1) := by decide +kernel
theorem d4_31 : decode jdk_35_method_24_code 31 = .ok (.new 1, 3) := by decide +kernel
theorem d4_34 : decode jdk_35_method_24_code 34 = .ok (.dup, 1) := by decide +kernel
theorem d4_35 : decode jdk_35_method_24_code 35 = .ok (.lload_n 0, 1) := by decide +kernel
theorem d4_36 : decode jdk_35_method_24_code 36 = .ok (.invokespecial 240, 3) := by decide +kernel
theorem d4_39 : decode jdk_35_method_24_code 39 = .ok (.areturn, 1) := by decide +kernel
theorem d5_0 : decode jdk_35_method_26_code 0 = .ok (.aload_n 0, 1) := by decide +kernel
theorem d5_1 : decode jdk_35_method_26_code 1 = .ok (.invokespecial 270, 3) := by decide +kernel
theorem d5_4 : decode jdk_35_method_26_code 4 = .ok (.aload_n 0, 1) := by decide +kernel
theorem d5_5 : decode jdk_35_method_26_code 5 = .ok (.lload_n 1, 1) := by decide +kernel
theorem d5_6 : decode jdk_35_method_26_code 6 = .ok (.putfield 273, 3) := by decide +kernel
theorem d5_9 : decode jdk_35_method_26_code 9 = .ok (.return_, 1) := by decide +kernel
theorem d6_0 : decode jdk_18_method_1_code 0 = .ok (.aload_n 0, 1) := by decide +kernel
theorem d6_1 : decode jdk_18_method_1_code 1 = .ok (.invokespecial 1, 3) := by decide +kernel
theorem d6_4 : decode jdk_18_method_1_code 4 = .ok (.return_, 1) := by decide +kernel
theorem pn_0 : plainName "com/example/halyard/halyard/messages/SubscriptionAcknowledgement" = true := by first | (simp [plainName, overriddenIn]; done) | decide +kernel
theorem pn_1 : plainName "java/lang/Number" = true := by first | (simp [plainName, overriddenIn]; done) | decide +kernel
theorem pn_2 : plainName "java/lang/Long" = true := by first | (simp [plainName, overriddenIn]; done) | decide +kernel
theorem pn_3 : plainName "com/example/halyard/halyard/messages/SubscriptionAcknowledgementEqualsPinLaw" = true := by first | (simp [plainName, overriddenIn]; done) | decide +kernel
theorem pd_0 : parseMethodDescriptor "()V" = some ⟨[], none⟩ := by decide +kernel
theorem pd_1 : parseMethodDescriptor "(J)V" = some ⟨[.long], none⟩ := by decide +kernel
theorem pd_2 : parseMethodDescriptor "(JJ)V" = some ⟨[.long, .long], none⟩ := by decide +kernel
theorem pd_3 : parseMethodDescriptor "(Ljava/lang/Object;)Z" = some ⟨[(.object "java/lang/Object")], some .boolean⟩ := by decide +kernel
theorem pd_4 : parseMethodDescriptor "(J)Ljava/lang/Long;" = some ⟨[.long], some (.object "java/lang/Long")⟩ := by decide +kernel
theorem ef_rm1 (m : MethodId) (x0 : Addr) (x1 : Int64) (x2 : Int64) : entryFrame m #[(.ref x0), (.long x1), (.long x2)] 5 = mkF m 0 #[.val (.ref x0), .val (.long x1), .second, .val (.long x2), .second] [] := by first | (simp [entryFrame, mkF, argsToLocals, Value.category]; done) | rfl
theorem ef_rm6 (m : MethodId) (x0 : Addr) : entryFrame m #[(.ref x0)] 1 = mkF m 0 #[.val (.ref x0)] [] := by first | (simp [entryFrame, mkF, argsToLocals, Value.category]; done) | rfl
theorem ef_rm5 (m : MethodId) (x0 : Addr) (x1 : Int64) : entryFrame m #[(.ref x0), (.long x1)] 3 = mkF m 0 #[.val (.ref x0), .val (.long x1), .second] [] := by first | (simp [entryFrame, mkF, argsToLocals, Value.category]; done) | rfl
theorem ef_rm4 (m : MethodId) (x0 : Int64) : entryFrame m #[(.long x0)] 3 = mkF m 0 #[.val (.long x0), .second, .unset] [] := by first | (simp [entryFrame, mkF, argsToLocals, Value.category]; done) | rfl
theorem ef_rmEn (m : MethodId) (x0 : Addr) : entryFrame m #[(.ref x0), .null] 3 = mkF m 0 #[.val (.ref x0), .val .null, .unset] [] := by first | (simp [entryFrame, mkF, argsToLocals, Value.category]; done) | rfl
theorem ef_rmEl (m : MethodId) (x0 : Addr) (x1 : Addr) : entryFrame m #[(.ref x0), (.ref x1)] 3 = mkF m 0 #[.val (.ref x0), .val (.ref x1), .unset] [] := by first | (simp [entryFrame, mkF, argsToLocals, Value.category]; done) | rfl
theorem ef_rmEs (m : MethodId) (x0 : Addr) (x1 : Addr) : entryFrame m #[(.ref x0), (.ref x1)] 3 = mkF m 0 #[.val (.ref x0), .val (.ref x1), .unset] [] := by first | (simp [entryFrame, mkF, argsToLocals, Value.category]; done) | rfl
theorem ef_rm0 (m : MethodId) (x0 : Int64) (x1 : Int64) (x2 : Int64) (x3 : Int64) (x4 : Int32) : entryFrame m #[(.long x0), (.long x1), (.long x2), (.long x3), (.int x4)] maxLocals = mkF m 0 #[.val (.long x0), .second, .val (.long x1), .second, .val (.long x2), .second, .val (.long x3), .second, .val (.int x4), .unset, .unset, .unset, .unset, .unset, .unset, .unset, .unset] [] := by first | (simp [entryFrame, mkF, argsToLocals, Value.category, maxLocals]; done) | rfl
theorem own_nsroot {Z : State} {a0 : Array Value} {O K : String} {n : Nat} (w : (Jvm.Cond.noSuperclass O).before a0 Z = true) (wi : (Jvm.Cond.instantiable K n).before a0 Z = true) (hn : O ≠ K) : NS Z O K := by
  obtain ⟨c, k, f1, f2, f3, -⟩ := Cond.noSuperclass_spec w
  obtain ⟨t, kt, g1, -⟩ := Cond.instantiable_spec wi
  refine ⟨c, t, f1, g1, fun fuel => ?_⟩
  have hne := ids_ne f1 g1 hn
  rcases fuel with _ | fuel
  · rfl
  · simp [Vm.isSubclassAux, hne, f2, f3]
theorem own_nsno {Z : State} {a0 : Array Value} {C S K : String} {n : Nat} (w : (Jvm.Cond.superclass C S).before a0 Z = true) (wi : (Jvm.Cond.instantiable K n).before a0 Z = true) (N : NS Z C K) (hn : C ≠ K) : ∃ c t, Z.vm.findClass C = some c ∧ Z.vm.findClass K = some t ∧ Z.vm.assignable c t = false := by
  obtain ⟨c, t, f0, g0, hsub⟩ := N
  obtain ⟨p, k, kp, -, f2, -, -, f5, -, -⟩ := Cond.superclass_spec f0 w
  obtain ⟨t', kt, g1, g2, g3, g4, -⟩ := Cond.instantiable_spec wi
  cases g0.symm.trans g1
  have hne := ids_ne f0 g0 hn
  have hi : kt.isInterface = false := by
    cases hh : kt.isInterface
    · rfl
    · rw [hh] at g4; simp at g4
  refine ⟨c, t, f0, g0, ?_⟩
  show Z.vm.assignableAux (255 + 1) c t = false
  simp [Vm.assignableAux, hne, f2, g2, f5, g3, hi, Vm.isSubclass, hsub]
theorem own_cidx {q : Int64} {cl : Cell} (h1 : ¬ q < (-128 : Int64)) (h2 : ¬ (127 : Int64) < q) (hs : cl.slots.size = 256) : ¬ ((q.toInt32 + (128 : Int32)) < 0 ∨ cl.slots.size ≤ (q.toInt32 + (128 : Int32)).toNatClampNeg) := by
  rw [Int64.lt_iff_toInt_lt] at h1 h2
  have e1 : (-128 : Int64).toInt = -128 := by decide
  have e2 : (127 : Int64).toInt = 127 := by decide
  have e3 : (128 : Int32).toInt = 128 := by decide
  have e0 : (0 : Int32).toInt = 0 := by decide
  rw [e1] at h1; rw [e2] at h2
  have a := c_l2i q
  have b := rng32 q.toInt32
  have c := c_iadd q.toInt32 128
  have d := rng32 (q.toInt32 + 128)
  rw [e3] at c
  rw [Int32.lt_iff_toInt_lt, e0, hs]
  have e : (q.toInt32 + 128).toNatClampNeg = (q.toInt32 + 128).toInt.toNat := rfl
  rw [e]; omega
def Qr (r : Value) (h0 : Heap) (n0 : Nat) (v : Option Value) (h : Heap) (L : List Loc) : Prop := v = some r ∧ Fr n0 L ∧ h = h0
def Qn (h0 : Heap) (n0 : Nat) (v : Option Value) (h : Heap) (L : List Loc) : Prop := v = none ∧ Fr n0 L ∧ h = h0
def Qk (a : Addr) (h0 : Heap) (n0 : Nat) (v : Option Value) (h : Heap) (L : List Loc) : Prop := v = none ∧ Fr n0 L ∧ Keep h0 h [a]
def Qi (Z : State) (a : Addr) (q0 q1 : Int64) (h0 : Heap) (n0 : Nat) (v : Option Value) (h : Heap) (L : List Loc) : Prop := v = none ∧ Fr n0 L ∧ Keep h0 h [a] ∧ Fld Z h a "com/example/halyard/halyard/messages/SubscriptionAcknowledgement" "subscriptionId" "J" (.long q0) ∧ Fld Z h a "com/example/halyard/halyard/messages/SubscriptionAcknowledgement" "sequenceNumber" "J" (.long q1)
def Qv (Z : State) (h0 : Heap) (n0 : Nat) (v : Option Value) (h : Heap) (L : List Loc) : Prop := ∃ r, v = some (.ref r) ∧ Fr n0 L ∧ Keep h0 h [] ∧ Exa Z h r "java/lang/Long"
def Cache (Z : State) (h : Heap) (ca : Addr) (cl : Cell) : Prop := Sta Z h "java/lang/Long$LongCache" "cache" "[Ljava/lang/Long;" (.ref ca) ∧ Arr Z h ca cl (.object "java/lang/Long") ∧ cl.slots.size = 256 ∧ ∀ j : Int32, ¬ (j < 0 ∨ cl.slots.size ≤ j.toNatClampNeg) → ∃ r, cl.slots[j.toNatClampNeg]? = some (.ref r) ∧ Exa Z h r "java/lang/Long"
theorem Cache.ext {Z : State} {h h' : Heap} {ca : Addr} {cl : Cell} (F : Cache Z h ca cl) (E : Ext h h') : Cache Z h' ca cl := ⟨F.1.ext E, F.2.1.ext E, F.2.2.1, fun j hj => by obtain ⟨r, q1, q2⟩ := F.2.2.2 j hj; exact ⟨r, q1, q2.ext E⟩⟩
set_option maxRecDepth 65536 in
set_option maxHeartbeats 40000000 in
theorem rm1 (l : Launch) (Z : State) (a0 : Array Value) (hw : ∀ d ∈ tables_1, d.before a0 Z = true) (ws : List Jvm.Cond) (a : Addr) (q0 q1 : Int64) (h0 : Heap) (n0 : Nat) (Z0 : n0 ≤ h0.size) (E : Exa Z h0 a "com/example/halyard/halyard/messages/SubscriptionAcknowledgement") (F1 : Fld Z h0 a "com/example/halyard/halyard/messages/SubscriptionAcknowledgement" "subscriptionId" "J" (.long (0 : Int64))) (F2 : Fld Z h0 a "com/example/halyard/halyard/messages/SubscriptionAcknowledgement" "sequenceNumber" "J" (.long (0 : Int64))) (ga : n0 ≤ a) :
    MetFree l (⟨"com/example/halyard/halyard/messages/SubscriptionAcknowledgement", "<init>", "(JJ)V"⟩ : MethodName) (head1 (Jvm.Cond.code (⟨"com/example/halyard/halyard/messages/SubscriptionAcknowledgement", "<init>", "(JJ)V"⟩ : MethodName) prog_92_method_1_code 5 none :: ws) ({ frames := 1, cells := 0, slots := 0, locals := 12 } : Room)) (fun aa UU => aa = #[(.ref a), (.long q0), (.long q1)] ∧ Z.Warmed39 UU.vm ∧ UU.heap = h0) (fun _ _ _ _ _ => True) (fun _ UU oo U' => ∃ v L, oo = .returned v ∧ Qi Z a q0 q1 h0 n0 v U'.heap L ∧ FrameEnd UU oo U' L ({ frames := 1, cells := 0, slots := 0, locals := 12 } : Room).cells ({ frames := 1, cells := 0, slots := 0, locals := 12 } : Room).slots) := by
  refine MetFree.of_bodySF (plainFor_of_name pn_0) hisR ?_
  intro p e s m args below meth c s₁ Bd hml0 hP hK
  obtain ⟨rfl, hZ, hh⟩ := hP
  have hx := Bd.exec
  have hby := Bd.bytes
  have hml : c.maxLocals = 5 := hml0
  have hown : s.vm.findClass "com/example/halyard/halyard/messages/SubscriptionAcknowledgement" = some m.cls := findClass_of_methodNamed Bd.named
  have hnm := (name_of_methodNamed Bd.named Bd.method).1
  have X0 : Stand p l e ({ frames := 1, cells := 0, slots := 0, locals := 12 } : Room) s m #[(.ref a), (.long q0), (.long q1)] below meth c s₁ [] 0 0 := Stand.of_body Bd
  have e0 : s₁.heap = h0 := by rw [← hh, Bd.state]; rfl
  have N0 := Fr.nil n0
  obtain ⟨A0, hA0⟩ : ∃ A, A = s₁.setTop (entryFrame m #[(.ref a), (.long q0), (.long q1)] 5) := ⟨_, rfl⟩
  have G0 : Go p e below A0 (s₁.setTop (mkF m 0 #[.val (.ref a), .val (.long q0), .second, .val (.long q1), .second] [])) := fun tq kq => by rw [hA0]; exact castTop (ef_rm1 m a q0 q1) kq
  have G1 : Go p e below A0 (s₁.setTop (mkF m 1 #[.val (.ref a), .val (.long q0), .second, .val (.long q1), .second] [(.ref a)])) := fun tq kq => G0 tq (by
    refine XS.aloadN X0.here hx rfl (hb hby d1_0) rfl rfl ?_
    show Steps p.tables e below (s₁.setTop (mkF m 1 #[.val (.ref a), .val (.long q0), .second, .val (.long q1), .second] [(.ref a)])) _
    exact kq)
  obtain ⟨T2, X2, e2, st2⟩ := initO X0 hx hZ hown (hw _ (List.mem_of_getElem? (i := 6) rfl)) (hw _ (List.mem_of_getElem? (i := 7) rfl)) (hw _ (List.mem_of_getElem? (i := 8) rfl)) e0 (g := (mkF m 1 #[.val (.ref a), .val (.long q0), .second, .val (.long q1), .second] [(.ref a)])) rfl (by rw [hml]; rfl) rfl (hb hby d1_1) (by decide) (W := 0) (by show 2 * 0 + _ ≤ _; exact Nat.le_of_eq rfl) (by decide)
  have G3 : Go p e below A0 (T2.setTop (mkF m 4 #[.val (.ref a), .val (.long q0), .second, .val (.long q1), .second] [])) := fun tq kq => G1 tq (st2 _ kq)
  have G4 : Go p e below A0 (T2.setTop (mkF m 6 #[.val (.ref a), .val (.long q0), .second, .val (.long q1), .second] [(.long q0), (.ref a)])) := fun tq kq => G3 tq (by
    refine XS.aloadN X2.here hx rfl (hb hby d1_4) rfl rfl ?_
    show Steps p.tables e below (T2.setTop (mkF m 5 #[.val (.ref a), .val (.long q0), .second, .val (.long q1), .second] [(.ref a)])) _
    refine XS.lloadN X2.here hx rfl (hb hby d1_5) rfl ?_
    show Steps p.tables e below (T2.setTop (mkF m 6 #[.val (.ref a), .val (.long q0), .second, .val (.long q1), .second] [(.long q0), (.ref a)])) _
    exact kq)
  obtain ⟨T5, h5, X5, e5, W5, st5⟩ := putF X2 hx hZ hown (host := "") (Or.inl (hw _ (List.mem_of_getElem? (i := 9) rfl))) Via.refl e2 F1 E (Or.inr ⟨(hw _ (List.mem_of_getElem? (i := 10) rfl)), rfl, hnm⟩) (hw _ (List.mem_of_getElem? (i := 1) rfl)) (ty := .long) (by decide) rfl rfl (g := (mkF m 6 #[.val (.ref a), .val (.long q0), .second, .val (.long q1), .second] [(.long q0), (.ref a)])) rfl rfl (hb hby d1_6)
  have N5 := Fr.snoc X5 N0 ga
  have fw5 := F1.same W5
  have G6 : Go p e below A0 (T5.setTop (mkF m 9 #[.val (.ref a), .val (.long q0), .second, .val (.long q1), .second] [])) := fun tq kq => G4 tq (st5 _ kq)
  have G7 : Go p e below A0 (T5.setTop (mkF m 11 #[.val (.ref a), .val (.long q0), .second, .val (.long q1), .second] [(.long q1), (.ref a)])) := fun tq kq => G6 tq (by
    refine XS.aloadN X5.here hx rfl (hb hby d1_9) rfl rfl ?_
    show Steps p.tables e below (T5.setTop (mkF m 10 #[.val (.ref a), .val (.long q0), .second, .val (.long q1), .second] [(.ref a)])) _
    refine XS.lloadN X5.here hx rfl (hb hby d1_10) rfl ?_
    show Steps p.tables e below (T5.setTop (mkF m 11 #[.val (.ref a), .val (.long q0), .second, .val (.long q1), .second] [(.long q1), (.ref a)])) _
    exact kq)
  have f8 := (E.wr W5)
  have f9 := (F2.other W5 (Or.inr (slot_ne (Or.inr (hw _ (List.mem_of_getElem? (i := 12) rfl))) (Or.inr (hw _ (List.mem_of_getElem? (i := 10) rfl))) (by decide) (t := .long) (t' := .long) (by decide) (by decide))))
  obtain ⟨T10, h10, X10, e10, W10, st10⟩ := putF X5 hx hZ hown (host := "") (Or.inl (hw _ (List.mem_of_getElem? (i := 11) rfl))) Via.refl e5 f9 f8 (Or.inr ⟨(hw _ (List.mem_of_getElem? (i := 12) rfl)), rfl, hnm⟩) (hw _ (List.mem_of_getElem? (i := 1) rfl)) (ty := .long) (by decide) rfl rfl (g := (mkF m 11 #[.val (.ref a), .val (.long q0), .second, .val (.long q1), .second] [(.long q1), (.ref a)])) rfl rfl (hb hby d1_11)
  have N10 := Fr.snoc X10 N5 ga
  have fw10 := f9.same W10
  have G11 : Go p e below A0 (T10.setTop (mkF m 14 #[.val (.ref a), .val (.long q0), .second, .val (.long q1), .second] [])) := fun tq kq => G7 tq (st10 _ kq)
  have f12 := (fw5.other W10 (Or.inr (slot_ne (Or.inr (hw _ (List.mem_of_getElem? (i := 10) rfl))) (Or.inr (hw _ (List.mem_of_getElem? (i := 12) rfl))) (by decide) (t := .long) (t' := .long) (by decide) (by decide))))
  obtain ⟨fs, hr, hrun, hended, hW, hsame⟩ := X10.leave (v := none) (fun _ => rfl)
  refine ⟨_, _, (by rw [← hA0]; exact G11 _ (X10.returnOut hx Bd.returns (hb hby d1_14) hr)), hrun, hended, _, _, rfl, ?_, ⟨_, rfl⟩, hW, hsame.mono (by decide) (by decide)⟩
  show Qi Z a q0 q1 h0 n0 _ T10.heap _
  rw [e10]
  exact ⟨rfl, N10, (((Keep.refl h0 [a]).wr W5 (Or.inl (List.mem_of_getElem? (i := 0) rfl))).wr W10 (Or.inl (List.mem_of_getElem? (i := 0) rfl))), f12, fw10⟩
set_option maxRecDepth 65536 in
set_option maxHeartbeats 40000000 in
theorem rm6 (l : Launch) (Z : State) (a0 : Array Value) (hw : ∀ d ∈ tables_1, d.before a0 Z = true) (ws : List Jvm.Cond) (a : Addr) (h0 : Heap) (n0 : Nat) (Z0 : n0 ≤ h0.size) :
    MetFree l (⟨"java/lang/Number", "<init>", "()V"⟩ : MethodName) (head1 (Jvm.Cond.code (⟨"java/lang/Number", "<init>", "()V"⟩ : MethodName) jdk_18_method_1_code 1 none :: ws) ({ frames := 1, cells := 0, slots := 0, locals := 12 } : Room)) (fun aa UU => aa = #[(.ref a)] ∧ Z.Warmed39 UU.vm ∧ UU.heap = h0) (fun _ _ _ _ _ => True) (fun _ UU oo U' => ∃ v L, oo = .returned v ∧ Qn h0 n0 v U'.heap L ∧ FrameEnd UU oo U' L ({ frames := 1, cells := 0, slots := 0, locals := 12 } : Room).cells ({ frames := 1, cells := 0, slots := 0, locals := 12 } : Room).slots) := by
  refine MetFree.of_bodySF (plainFor_of_name pn_1) hisR ?_
  intro p e s m args below meth c s₁ Bd hml0 hP hK
  obtain ⟨rfl, hZ, hh⟩ := hP
  have hx := Bd.exec
  have hby := Bd.bytes
  have hml : c.maxLocals = 1 := hml0
  have hown : s.vm.findClass "java/lang/Number" = some m.cls := findClass_of_methodNamed Bd.named
  have hnm := (name_of_methodNamed Bd.named Bd.method).1
  have X0 : Stand p l e ({ frames := 1, cells := 0, slots := 0, locals := 12 } : Room) s m #[(.ref a)] below meth c s₁ [] 0 0 := Stand.of_body Bd
  have e0 : s₁.heap = h0 := by rw [← hh, Bd.state]; rfl
  have N0 := Fr.nil n0
  obtain ⟨A0, hA0⟩ : ∃ A, A = s₁.setTop (entryFrame m #[(.ref a)] 1) := ⟨_, rfl⟩
  have G0 : Go p e below A0 (s₁.setTop (mkF m 0 #[.val (.ref a)] [])) := fun tq kq => by rw [hA0]; exact castTop (ef_rm6 m a) kq
  have G13 : Go p e below A0 (s₁.setTop (mkF m 1 #[.val (.ref a)] [(.ref a)])) := fun tq kq => G0 tq (by
    refine XS.aloadN X0.here hx rfl (hb hby d6_0) rfl rfl ?_
    show Steps p.tables e below (s₁.setTop (mkF m 1 #[.val (.ref a)] [(.ref a)])) _
    exact kq)
  obtain ⟨T14, X14, e14, st14⟩ := initO X0 hx hZ hown (hw _ (List.mem_of_getElem? (i := 37) rfl)) (hw _ (List.mem_of_getElem? (i := 7) rfl)) (hw _ (List.mem_of_getElem? (i := 8) rfl)) e0 (g := (mkF m 1 #[.val (.ref a)] [(.ref a)])) rfl (by rw [hml]; rfl) rfl (hb hby d6_1) (by decide) (W := 0) (by show 2 * 0 + _ ≤ _; exact Nat.le_of_eq rfl) (by decide)
  have G15 : Go p e below A0 (T14.setTop (mkF m 4 #[.val (.ref a)] [])) := fun tq kq => G13 tq (st14 _ kq)
  obtain ⟨fs, hr, hrun, hended, hW, hsame⟩ := X14.leave (v := none) (fun _ => rfl)
  refine ⟨_, _, (by rw [← hA0]; exact G15 _ (X14.returnOut hx Bd.returns (hb hby d6_4) hr)), hrun, hended, _, _, rfl, ?_, ⟨_, rfl⟩, hW, hsame.mono (by decide) (by decide)⟩
  exact ⟨rfl, N0, e14⟩
set_option maxRecDepth 65536 in
set_option maxHeartbeats 40000000 in
theorem rm5 (l : Launch) (Z : State) (a0 : Array Value) (hw : ∀ d ∈ tables_1, d.before a0 Z = true) (ws : List Jvm.Cond) (a : Addr) (q0 : Int64) (h0 : Heap) (n0 : Nat) (Z0 : n0 ≤ h0.size) (E : Exa Z h0 a "java/lang/Long") (F : Fld Z h0 a "java/lang/Long" "value" "J" (.long (0 : Int64))) (ga : n0 ≤ a) :
    MetFree l (⟨"java/lang/Long", "<init>", "(J)V"⟩ : MethodName) (head1 (Jvm.Cond.code (⟨"java/lang/Long", "<init>", "(J)V"⟩ : MethodName) jdk_35_method_26_code 3 none :: ws) ({ frames := 2, cells := 0, slots := 0, locals := 24 } : Room)) (fun aa UU => aa = #[(.ref a), (.long q0)] ∧ Z.Warmed39 UU.vm ∧ UU.heap = h0) (fun _ _ _ _ _ => True) (fun _ UU oo U' => ∃ v L, oo = .returned v ∧ Qk a h0 n0 v U'.heap L ∧ FrameEnd UU oo U' L ({ frames := 2, cells := 0, slots := 0, locals := 24 } : Room).cells ({ frames := 2, cells := 0, slots := 0, locals := 24 } : Room).slots) := by
  refine MetFree.of_bodySF (plainFor_of_name pn_2) hisR ?_
  intro p e s m args below meth c s₁ Bd hml0 hP hK
  obtain ⟨rfl, hZ, hh⟩ := hP
  have hx := Bd.exec
  have hby := Bd.bytes
  have hml : c.maxLocals = 3 := hml0
  have hown : s.vm.findClass "java/lang/Long" = some m.cls := findClass_of_methodNamed Bd.named
  have hnm := (name_of_methodNamed Bd.named Bd.method).1
  have X0 : Stand p l e ({ frames := 2, cells := 0, slots := 0, locals := 24 } : Room) s m #[(.ref a), (.long q0)] below meth c s₁ [] 0 0 := Stand.of_body Bd
  have e0 : s₁.heap = h0 := by rw [← hh, Bd.state]; rfl
  have N0 := Fr.nil n0
  obtain ⟨A0, hA0⟩ : ∃ A, A = s₁.setTop (entryFrame m #[(.ref a), (.long q0)] 3) := ⟨_, rfl⟩
  have G0 : Go p e below A0 (s₁.setTop (mkF m 0 #[.val (.ref a), .val (.long q0), .second] [])) := fun tq kq => by rw [hA0]; exact castTop (ef_rm5 m a q0) kq
  have G16 : Go p e below A0 (s₁.setTop (mkF m 1 #[.val (.ref a), .val (.long q0), .second] [(.ref a)])) := fun tq kq => G0 tq (by
    refine XS.aloadN X0.here hx rfl (hb hby d5_0) rfl rfl ?_
    show Steps p.tables e below (s₁.setTop (mkF m 1 #[.val (.ref a), .val (.long q0), .second] [(.ref a)])) _
    exact kq)
  obtain ⟨_, _, ⟨T17, L17, k17, n17⟩, -, X17, ⟨Lc17, hQ17, l17, y17, z17⟩, st17⟩ := X0.specialBack hx (y := (⟨"java/lang/Number", "<init>", "()V"⟩ : MethodName)) rfl hown (mvT hZ (hw _ (List.mem_of_getElem? (i := 31) rfl))) (mvT hZ (hw _ (List.mem_of_getElem? (i := 32) rfl))) (mvT hZ (hw _ (List.mem_of_getElem? (i := 36) rfl))) (by decide) (backOf (W := 0) (rm6 l Z a0 hw [] a h0 n0 Z0) hZ (hw _ (List.mem_of_getElem? (i := 36) rfl)) (hw _ (List.mem_of_getElem? (i := 35) rfl)) (by decide) (by decide)) (g := (mkF m 1 #[.val (.ref a), .val (.long q0), .second] [(.ref a)])) rfl (by rw [hml]; rfl) (Steps.refl _) (a := a) (argsL := []) (rest := []) (lenOf pd_0 rfl) rfl (by show 2 * 0 + _ ≤ _; exact Nat.le_of_eq rfl) (hb hby d5_1) (fun _ _ => ⟨rfl, e0, (by decide : 0 + 0 ≤ _), (by decide : 0 + 0 ≤ _)⟩)
  dsimp only [Pt.U, Pt.locs, Pt.cells, Pt.slots] at X17 l17 y17 z17 st17 hQ17
  subst l17 y17 z17
  obtain ⟨rfl, N17q, e17⟩ := hQ17
  have N17 := Fr.app N0 N17q
  have G18 : Go p e below A0 (T17.setTop (mkF m 4 #[.val (.ref a), .val (.long q0), .second] [])) := fun tq kq => G16 tq (st17.trans kq)
  have G19 : Go p e below A0 (T17.setTop (mkF m 6 #[.val (.ref a), .val (.long q0), .second] [(.long q0), (.ref a)])) := fun tq kq => G18 tq (by
    refine XS.aloadN X17.here hx rfl (hb hby d5_4) rfl rfl ?_
    show Steps p.tables e below (T17.setTop (mkF m 5 #[.val (.ref a), .val (.long q0), .second] [(.ref a)])) _
    refine XS.lloadN X17.here hx rfl (hb hby d5_5) rfl ?_
    show Steps p.tables e below (T17.setTop (mkF m 6 #[.val (.ref a), .val (.long q0), .second] [(.long q0), (.ref a)])) _
    exact kq)
  obtain ⟨T20, h20, X20, e20, W20, st20⟩ := putF X17 hx hZ hown (host := "") (Or.inl (hw _ (List.mem_of_getElem? (i := 38) rfl))) Via.refl e17 F E (Or.inr ⟨(hw _ (List.mem_of_getElem? (i := 39) rfl)), rfl, hnm⟩) (hw _ (List.mem_of_getElem? (i := 26) rfl)) (ty := .long) (by decide) rfl rfl (g := (mkF m 6 #[.val (.ref a), .val (.long q0), .second] [(.long q0), (.ref a)])) rfl rfl (hb hby d5_6)
  have N20 := Fr.snoc X20 N17 ga
  have fw20 := F.same W20
  have G21 : Go p e below A0 (T20.setTop (mkF m 9 #[.val (.ref a), .val (.long q0), .second] [])) := fun tq kq => G19 tq (st20 _ kq)
  obtain ⟨fs, hr, hrun, hended, hW, hsame⟩ := X20.leave (v := none) (fun _ => rfl)
  refine ⟨_, _, (by rw [← hA0]; exact G21 _ (X20.returnOut hx Bd.returns (hb hby d5_9) hr)), hrun, hended, _, _, rfl, ?_, ⟨_, rfl⟩, hW, hsame.mono (by decide) (by decide)⟩
  show Qk a h0 n0 _ T20.heap _
  rw [e20]
  exact ⟨rfl, N20, ((Keep.refl h0 [a]).wr W20 (Or.inl (List.mem_of_getElem? (i := 0) rfl)))⟩
set_option maxRecDepth 65536 in
set_option maxHeartbeats 40000000 in
theorem rm4 (l : Launch) (Z : State) (a0 : Array Value) (hw : ∀ d ∈ tables_1, d.before a0 Z = true) (ws : List Jvm.Cond) (q0 : Int64) (ca : Addr) (cl : Cell) (h0 : Heap) (n0 : Nat) (Z0 : n0 ≤ h0.size) (hca : Cache Z h0 ca cl) :
    MetFree l (⟨"java/lang/Long", "valueOf", "(J)Ljava/lang/Long;"⟩ : MethodName) (head1 (Jvm.Cond.code (⟨"java/lang/Long", "valueOf", "(J)Ljava/lang/Long;"⟩ : MethodName) jdk_35_method_24_code 3 (some (.object "java/lang/Long")) :: ws) ({ frames := 3, cells := 1, slots := 1, locals := 39 } : Room)) (fun aa UU => aa = #[(.long q0)] ∧ Z.Warmed39 UU.vm ∧ UU.heap = h0) (fun _ _ _ _ _ => True) (fun _ UU oo U' => ∃ v L, oo = .returned v ∧ Qv Z h0 n0 v U'.heap L ∧ FrameEnd UU oo U' L ({ frames := 3, cells := 1, slots := 1, locals := 39 } : Room).cells ({ frames := 3, cells := 1, slots := 1, locals := 39 } : Room).slots) := by
  refine MetFree.of_bodySF (plainFor_of_name pn_2) hisR ?_
  intro p e s m args below meth c s₁ Bd hml0 hP hK
  obtain ⟨rfl, hZ, hh⟩ := hP
  have hx := Bd.exec
  have hby := Bd.bytes
  have hml : c.maxLocals = 3 := hml0
  have hown : s.vm.findClass "java/lang/Long" = some m.cls := findClass_of_methodNamed Bd.named
  have hnm := (name_of_methodNamed Bd.named Bd.method).1
  have X0 : Stand p l e ({ frames := 3, cells := 1, slots := 1, locals := 39 } : Room) s m #[(.long q0)] below meth c s₁ [] 0 0 := Stand.of_body Bd
  have e0 : s₁.heap = h0 := by rw [← hh, Bd.state]; rfl
  have N0 := Fr.nil n0
  obtain ⟨A0, hA0⟩ : ∃ A, A = s₁.setTop (entryFrame m #[(.long q0)] 3) := ⟨_, rfl⟩
  have G0 : Go p e below A0 (s₁.setTop (mkF m 0 #[.val (.long q0), .second, .unset] [])) := fun tq kq => by rw [hA0]; exact castTop (ef_rm4 m q0) kq
  have G22 : Go p e below A0 (s₁.setTop (mkF m 9 #[.val (.long q0), .second, .val (.int (128 : Int32))] [(.int (lcmpW q0 (-128 : Int64)))])) := fun tq kq => G0 tq (by
    refine XS.sipush X0.here hx rfl (hb hby d4_0) ?_
    show Steps p.tables e below (s₁.setTop (mkF m 3 #[.val (.long q0), .second, .unset] [(.int (128 : Int32))])) _
    refine XS.istoreN X0.here hx rfl (hb hby d4_3) rfl (l' := #[.val (.long q0), .second, .val (.int (128 : Int32))]) rfl ?_
    show Steps p.tables e below (s₁.setTop (mkF m 4 #[.val (.long q0), .second, .val (.int (128 : Int32))] [])) _
    refine XS.lloadN X0.here hx rfl (hb hby d4_4) rfl ?_
    show Steps p.tables e below (s₁.setTop (mkF m 5 #[.val (.long q0), .second, .val (.int (128 : Int32))] [(.long q0)])) _
    refine X0.ldc2Long hx hown (mvT hZ (hw _ (List.mem_of_getElem? (i := 24) rfl))) (g := (mkF m 5 #[.val (.long q0), .second, .val (.int (128 : Int32))] [(.long q0)])) rfl (hb hby d4_5) _ ?_
    show Steps p.tables e below (s₁.setTop (mkF m 8 #[.val (.long q0), .second, .val (.int (128 : Int32))] [(.long (-128 : Int64)), (.long q0)])) _
    refine XS.lcmp X0.here hx rfl (hb hby d4_8) rfl ?_
    show Steps p.tables e below (s₁.setTop (mkF m 9 #[.val (.long q0), .second, .val (.int (128 : Int32))] [(.int (lcmpW q0 (-128 : Int64)))])) _
    exact kq)
  by_cases hc23 : q0 < (-128 : Int64)
  · have G24 : Go p e below A0 (s₁.setTop (mkF m 31 #[.val (.long q0), .second, .val (.int (128 : Int32))] [])) := fun tq kq => G22 tq (by
      refine XS.ifYes X0.here hx rfl (pc0 := 9) (pc' := 31) rfl (hb hby d4_9) rfl ((if0 _ _).trans (tlt ((lw_lt _ _).mpr hc23)).1) (by decide) (by decide) ?_
      show Steps p.tables e below (s₁.setTop (mkF m 31 #[.val (.long q0), .second, .val (.int (128 : Int32))] [])) _
      exact kq)
    obtain ⟨T25, h25, X25, e25, E25, A25, D25, -, st25⟩ := newO X0 hx hZ hown (hw _ (List.mem_of_getElem? (i := 25) rfl)) (hw _ (List.mem_of_getElem? (i := 26) rfl)) (hw _ (List.mem_of_getElem? (i := 22) rfl)) e0 (g := (mkF m 31 #[.val (.long q0), .second, .val (.int (128 : Int32))] [])) rfl (hb hby d4_31) (by decide) (by decide)
    obtain ⟨b25, g25⟩ : ∃ z, z = h0.size := ⟨_, rfl⟩
    rw [← g25] at A25 D25 st25
    have sz_b25 : h0.size ≤ b25 := Nat.le_trans (Nat.le_refl h0.size) (Nat.le_of_eq g25.symm)
    have g_b25 : n0 ≤ b25 := Nat.le_trans Z0 (Nat.le_of_eq g25.symm)
    have F25_value : Fld Z h25 b25 "java/lang/Long" "value" "J" (.long (0 : Int64)) := D25 (Or.inr (hw _ (List.mem_of_getElem? (i := 39) rfl))) (ty := .long) (by decide)
    have G26 : Go p e below A0 (T25.setTop (mkF m 34 #[.val (.long q0), .second, .val (.int (128 : Int32))] [(.ref b25)])) := fun tq kq => G24 tq (st25 _ kq)
    have G27 : Go p e below A0 (T25.setTop (mkF m 36 #[.val (.long q0), .second, .val (.int (128 : Int32))] [(.long q0), (.ref b25), (.ref b25)])) := fun tq kq => G26 tq (by
      refine XS.dup X25.here hx rfl (hb hby d4_34) rfl rfl ?_
      show Steps p.tables e below (T25.setTop (mkF m 35 #[.val (.long q0), .second, .val (.int (128 : Int32))] [(.ref b25), (.ref b25)])) _
      refine XS.lloadN X25.here hx rfl (hb hby d4_35) rfl ?_
      show Steps p.tables e below (T25.setTop (mkF m 36 #[.val (.long q0), .second, .val (.int (128 : Int32))] [(.long q0), (.ref b25), (.ref b25)])) _
      exact kq)
    have f29 := (Nat.le_trans Z0 E25.1)
    obtain ⟨_, _, ⟨T28, L28, k28, n28⟩, -, X28, ⟨Lc28, hQ28, l28, y28, z28⟩, st28⟩ := X25.specialBack hx (y := (⟨"java/lang/Long", "<init>", "(J)V"⟩ : MethodName)) rfl hown (mvT hZ (hw _ (List.mem_of_getElem? (i := 27) rfl))) (mvT hZ (hw _ (List.mem_of_getElem? (i := 28) rfl))) (mvT hZ (hw _ (List.mem_of_getElem? (i := 30) rfl))) (by decide) (backOf (W := 1) (rm5 l Z a0 hw [] b25 q0 h25 n0 f29 A25 F25_value g_b25) hZ (hw _ (List.mem_of_getElem? (i := 30) rfl)) (hw _ (List.mem_of_getElem? (i := 22) rfl)) (by decide) (by decide)) (g := (mkF m 36 #[.val (.long q0), .second, .val (.int (128 : Int32))] [(.long q0), (.ref b25), (.ref b25)])) rfl (by rw [hml]; rfl) (Steps.refl _) (a := b25) (argsL := [(.long q0)]) (rest := [(.ref b25)]) (lenOf pd_1 rfl) rfl (by show 2 * 0 + _ ≤ _; exact Nat.le_of_eq rfl) (hb hby d4_36) (fun _ _ => ⟨rfl, e25, (by decide : 1 + 0 ≤ _), (by decide : 1 + 0 ≤ _)⟩)
    dsimp only [Pt.U, Pt.locs, Pt.cells, Pt.slots] at X28 l28 y28 z28 st28 hQ28
    subst l28 y28 z28
    obtain ⟨rfl, N28q, K28⟩ := hQ28
    have N28 := Fr.app N0 N28q
    have G30 : Go p e below A0 (T28.setTop (mkF m 39 #[.val (.long q0), .second, .val (.int (128 : Int32))] [(.ref b25)])) := fun tq kq => G27 tq (st28.trans kq)
    have f31 := (A25.keep K28)
    obtain ⟨fs, hr, hrun, hended, hW, hsame⟩ := X28.leave (v := some (.ref b25)) (fun h => by rw [Bd.returns] at h; cases h)
    refine ⟨_, _, (by rw [← hA0]; exact G30 _ (retOut X28 hx (t := (.object "java/lang/Long")) Bd.returns rfl (Or.inr (Or.inr (Or.inr (Or.inr ⟨rfl, rfl, rfl⟩)))) (hb hby d4_39) hr)), hrun, hended, _, _, rfl, ?_, ⟨_, rfl⟩, hW, hsame.mono (by decide) (by decide)⟩
    show Qv Z h0 n0 _ T28.heap _
    exact ⟨_, rfl, N28, (((Keep.refl h0 []).ext E25).trans K28 (allS (P := fun x => x ∈ [] ∨ h0.size ≤ x) (Or.inr sz_b25) all0)), f31⟩
  · have G32 : Go p e below A0 (s₁.setTop (mkF m 17 #[.val (.long q0), .second, .val (.int (128 : Int32))] [(.int (lcmpW q0 (127 : Int64)))])) := fun tq kq => G22 tq (by
      refine XS.ifNo X0.here hx rfl (hb hby d4_9) rfl ((if0 _ _).trans (flt (fun q => hc23 ((lw_lt _ _).mp q))).1) ?_
      show Steps p.tables e below (s₁.setTop (mkF m 12 #[.val (.long q0), .second, .val (.int (128 : Int32))] [])) _
      refine XS.lloadN X0.here hx rfl (hb hby d4_12) rfl ?_
      show Steps p.tables e below (s₁.setTop (mkF m 13 #[.val (.long q0), .second, .val (.int (128 : Int32))] [(.long q0)])) _
      refine X0.ldc2Long hx hown (mvT hZ (hw _ (List.mem_of_getElem? (i := 43) rfl))) (g := (mkF m 13 #[.val (.long q0), .second, .val (.int (128 : Int32))] [(.long q0)])) rfl (hb hby d4_13) _ ?_
      show Steps p.tables e below (s₁.setTop (mkF m 16 #[.val (.long q0), .second, .val (.int (128 : Int32))] [(.long (127 : Int64)), (.long q0)])) _
      refine XS.lcmp X0.here hx rfl (hb hby d4_16) rfl ?_
      show Steps p.tables e below (s₁.setTop (mkF m 17 #[.val (.long q0), .second, .val (.int (128 : Int32))] [(.int (lcmpW q0 (127 : Int64)))])) _
      exact kq)
    by_cases hc33 : (127 : Int64) < q0
    · have G34 : Go p e below A0 (s₁.setTop (mkF m 31 #[.val (.long q0), .second, .val (.int (128 : Int32))] [])) := fun tq kq => G32 tq (by
        refine XS.ifYes X0.here hx rfl (pc0 := 17) (pc' := 31) rfl (hb hby d4_17) rfl ((if0 _ _).trans (tlt ((lw_gt _ _).mpr hc33)).2.2.1) (by decide) (by decide) ?_
        show Steps p.tables e below (s₁.setTop (mkF m 31 #[.val (.long q0), .second, .val (.int (128 : Int32))] [])) _
        exact kq)
      obtain ⟨T35, h35, X35, e35, E35, A35, D35, -, st35⟩ := newO X0 hx hZ hown (hw _ (List.mem_of_getElem? (i := 25) rfl)) (hw _ (List.mem_of_getElem? (i := 26) rfl)) (hw _ (List.mem_of_getElem? (i := 22) rfl)) e0 (g := (mkF m 31 #[.val (.long q0), .second, .val (.int (128 : Int32))] [])) rfl (hb hby d4_31) (by decide) (by decide)
      obtain ⟨b35, g35⟩ : ∃ z, z = h0.size := ⟨_, rfl⟩
      rw [← g35] at A35 D35 st35
      have sz_b35 : h0.size ≤ b35 := Nat.le_trans (Nat.le_refl h0.size) (Nat.le_of_eq g35.symm)
      have g_b35 : n0 ≤ b35 := Nat.le_trans Z0 (Nat.le_of_eq g35.symm)
      have F35_value : Fld Z h35 b35 "java/lang/Long" "value" "J" (.long (0 : Int64)) := D35 (Or.inr (hw _ (List.mem_of_getElem? (i := 39) rfl))) (ty := .long) (by decide)
      have G36 : Go p e below A0 (T35.setTop (mkF m 34 #[.val (.long q0), .second, .val (.int (128 : Int32))] [(.ref b35)])) := fun tq kq => G34 tq (st35 _ kq)
      have G37 : Go p e below A0 (T35.setTop (mkF m 36 #[.val (.long q0), .second, .val (.int (128 : Int32))] [(.long q0), (.ref b35), (.ref b35)])) := fun tq kq => G36 tq (by
        refine XS.dup X35.here hx rfl (hb hby d4_34) rfl rfl ?_
        show Steps p.tables e below (T35.setTop (mkF m 35 #[.val (.long q0), .second, .val (.int (128 : Int32))] [(.ref b35), (.ref b35)])) _
        refine XS.lloadN X35.here hx rfl (hb hby d4_35) rfl ?_
        show Steps p.tables e below (T35.setTop (mkF m 36 #[.val (.long q0), .second, .val (.int (128 : Int32))] [(.long q0), (.ref b35), (.ref b35)])) _
        exact kq)
      have f39 := (Nat.le_trans Z0 E35.1)
      obtain ⟨_, _, ⟨T38, L38, k38, n38⟩, -, X38, ⟨Lc38, hQ38, l38, y38, z38⟩, st38⟩ := X35.specialBack hx (y := (⟨"java/lang/Long", "<init>", "(J)V"⟩ : MethodName)) rfl hown (mvT hZ (hw _ (List.mem_of_getElem? (i := 27) rfl))) (mvT hZ (hw _ (List.mem_of_getElem? (i := 28) rfl))) (mvT hZ (hw _ (List.mem_of_getElem? (i := 30) rfl))) (by decide) (backOf (W := 1) (rm5 l Z a0 hw [] b35 q0 h35 n0 f39 A35 F35_value g_b35) hZ (hw _ (List.mem_of_getElem? (i := 30) rfl)) (hw _ (List.mem_of_getElem? (i := 22) rfl)) (by decide) (by decide)) (g := (mkF m 36 #[.val (.long q0), .second, .val (.int (128 : Int32))] [(.long q0), (.ref b35), (.ref b35)])) rfl (by rw [hml]; rfl) (Steps.refl _) (a := b35) (argsL := [(.long q0)]) (rest := [(.ref b35)]) (lenOf pd_1 rfl) rfl (by show 2 * 0 + _ ≤ _; exact Nat.le_of_eq rfl) (hb hby d4_36) (fun _ _ => ⟨rfl, e35, (by decide : 1 + 0 ≤ _), (by decide : 1 + 0 ≤ _)⟩)
      dsimp only [Pt.U, Pt.locs, Pt.cells, Pt.slots] at X38 l38 y38 z38 st38 hQ38
      subst l38 y38 z38
      obtain ⟨rfl, N38q, K38⟩ := hQ38
      have N38 := Fr.app N0 N38q
      have G40 : Go p e below A0 (T38.setTop (mkF m 39 #[.val (.long q0), .second, .val (.int (128 : Int32))] [(.ref b35)])) := fun tq kq => G37 tq (st38.trans kq)
      have f41 := (A35.keep K38)
      obtain ⟨fs, hr, hrun, hended, hW, hsame⟩ := X38.leave (v := some (.ref b35)) (fun h => by rw [Bd.returns] at h; cases h)
      refine ⟨_, _, (by rw [← hA0]; exact G40 _ (retOut X38 hx (t := (.object "java/lang/Long")) Bd.returns rfl (Or.inr (Or.inr (Or.inr (Or.inr ⟨rfl, rfl, rfl⟩)))) (hb hby d4_39) hr)), hrun, hended, _, _, rfl, ?_, ⟨_, rfl⟩, hW, hsame.mono (by decide) (by decide)⟩
      show Qv Z h0 n0 _ T38.heap _
      exact ⟨_, rfl, N38, (((Keep.refl h0 []).ext E35).trans K38 (allS (P := fun x => x ∈ [] ∨ h0.size ≤ x) (Or.inr sz_b35) all0)), f41⟩
    · have G42 : Go p e below A0 (s₁.setTop (mkF m 20 #[.val (.long q0), .second, .val (.int (128 : Int32))] [])) := fun tq kq => G32 tq (by
        refine XS.ifNo X0.here hx rfl (hb hby d4_17) rfl ((if0 _ _).trans (flt (fun q => hc33 ((lw_gt _ _).mp q))).2.2.1) ?_
        show Steps p.tables e below (s₁.setTop (mkF m 20 #[.val (.long q0), .second, .val (.int (128 : Int32))] [])) _
        exact kq)
      obtain ⟨T43, X43, e43, st43⟩ := getS2 X0 hx hZ hown (host := "") (Or.inl (hw _ (List.mem_of_getElem? (i := 44) rfl))) Via.refl e0 hca.1 (g := (mkF m 20 #[.val (.long q0), .second, .val (.int (128 : Int32))] [])) rfl (hb hby d4_20)
      have G44 : Go p e below A0 (T43.setTop (mkF m 23 #[.val (.long q0), .second, .val (.int (128 : Int32))] [(.ref ca)])) := fun tq kq => G42 tq (st43 _ kq)
      have G45 : Go p e below A0 (T43.setTop (mkF m 29 #[.val (.long q0), .second, .val (.int (128 : Int32))] [(.int (q0.toInt32 + (128 : Int32))), (.ref ca)])) := fun tq kq => G44 tq (by
        refine XS.lloadN X43.here hx rfl (hb hby d4_23) rfl ?_
        show Steps p.tables e below (T43.setTop (mkF m 24 #[.val (.long q0), .second, .val (.int (128 : Int32))] [(.long q0), (.ref ca)])) _
        refine XS.l2i X43.here hx rfl (hb hby d4_24) rfl ?_
        show Steps p.tables e below (T43.setTop (mkF m 25 #[.val (.long q0), .second, .val (.int (128 : Int32))] [(.int q0.toInt32), (.ref ca)])) _
        refine XS.sipush X43.here hx rfl (hb hby d4_25) ?_
        show Steps p.tables e below (T43.setTop (mkF m 28 #[.val (.long q0), .second, .val (.int (128 : Int32))] [(.int (128 : Int32)), (.int q0.toInt32), (.ref ca)])) _
        refine XS.iadd X43.here hx rfl (hb hby d4_28) rfl ?_
        show Steps p.tables e below (T43.setTop (mkF m 29 #[.val (.long q0), .second, .val (.int (128 : Int32))] [(.int (q0.toInt32 + (128 : Int32))), (.ref ca)])) _
        exact kq)
      have hin := own_cidx hc23 hc33 hca.2.2.1
      obtain ⟨r, hr1, hr2⟩ := hca.2.2.2 _ hin
      have G46 : Go p e below A0 (T43.setTop (mkF m 30 #[.val (.long q0), .second, .val (.int (128 : Int32))] [(.ref r)])) := fun tq kq => G45 tq (by
        refine X43.aaload hx (j := (q0.toInt32 + (128 : Int32))) (v := .ref r) (by rw [e43]; exact hca.2.1.1) (State.isArrayOf_alike hZ.alike hca.2.1.2.1) rfl hca.2.1.2.2 hin hr1 (g := (mkF m 29 #[.val (.long q0), .second, .val (.int (128 : Int32))] [(.int (q0.toInt32 + (128 : Int32))), (.ref ca)])) rfl rfl (hb hby d4_29) _ ?_
        show Steps p.tables e below (T43.setTop (mkF m 30 #[.val (.long q0), .second, .val (.int (128 : Int32))] [(.ref r)])) _
        exact kq)
      obtain ⟨fs, hr, hrun, hended, hW, hsame⟩ := X43.leave (v := some (.ref r)) (fun h => by rw [Bd.returns] at h; cases h)
      refine ⟨_, _, (by rw [← hA0]; exact G46 _ (retOut X43 hx (t := (.object "java/lang/Long")) Bd.returns rfl (Or.inr (Or.inr (Or.inr (Or.inr ⟨rfl, rfl, rfl⟩)))) (hb hby d4_30) hr)), hrun, hended, _, _, rfl, ?_, ⟨_, rfl⟩, hW, hsame.mono (by decide) (by decide)⟩
      show Qv Z h0 n0 _ T43.heap _
      rw [e43]
      exact ⟨_, rfl, N0, (Keep.refl h0 []), hr2⟩
set_option maxRecDepth 65536 in
set_option maxHeartbeats 40000000 in
theorem rmEn (l : Launch) (Z : State) (a0 : Array Value) (hw : ∀ d ∈ tables_1, d.before a0 Z = true) (ws : List Jvm.Cond) (a : Addr) (h0 : Heap) (n0 : Nat) (Z0 : n0 ≤ h0.size) :
    MetFree l (⟨"com/example/halyard/halyard/messages/SubscriptionAcknowledgement", "equals", "(Ljava/lang/Object;)Z"⟩ : MethodName) (head1 (Jvm.Cond.code (⟨"com/example/halyard/halyard/messages/SubscriptionAcknowledgement", "equals", "(Ljava/lang/Object;)Z"⟩ : MethodName) prog_92_method_6_code 3 (some .boolean) :: ws) ({ frames := 0, cells := 0, slots := 0, locals := 0 } : Room)) (fun aa UU => aa = #[(.ref a), .null] ∧ Z.Warmed39 UU.vm ∧ UU.heap = h0) (fun _ _ _ _ _ => True) (fun _ UU oo U' => ∃ v L, oo = .returned v ∧ Qr (.int 0) h0 n0 v U'.heap L ∧ FrameEnd UU oo U' L ({ frames := 0, cells := 0, slots := 0, locals := 0 } : Room).cells ({ frames := 0, cells := 0, slots := 0, locals := 0 } : Room).slots) := by
  refine MetFree.of_bodySF (plainFor_of_name pn_0) hisR ?_
  intro p e s m args below meth c s₁ Bd hml0 hP hK
  obtain ⟨rfl, hZ, hh⟩ := hP
  have hx := Bd.exec
  have hby := Bd.bytes
  have hml : c.maxLocals = 3 := hml0
  have hown : s.vm.findClass "com/example/halyard/halyard/messages/SubscriptionAcknowledgement" = some m.cls := findClass_of_methodNamed Bd.named
  have hnm := (name_of_methodNamed Bd.named Bd.method).1
  have X0 : Stand p l e ({ frames := 0, cells := 0, slots := 0, locals := 0 } : Room) s m #[(.ref a), .null] below meth c s₁ [] 0 0 := Stand.of_body Bd
  have e0 : s₁.heap = h0 := by rw [← hh, Bd.state]; rfl
  have N0 := Fr.nil n0
  obtain ⟨A0, hA0⟩ : ∃ A, A = s₁.setTop (entryFrame m #[(.ref a), .null] 3) := ⟨_, rfl⟩
  have G0 : Go p e below A0 (s₁.setTop (mkF m 0 #[.val (.ref a), .val .null, .unset] [])) := fun tq kq => by rw [hA0]; exact castTop (ef_rmEn m a) kq
  have G47 : Go p e below A0 (s₁.setTop (mkF m 1 #[.val (.ref a), .val .null, .unset] [.null])) := fun tq kq => G0 tq (by
    refine XS.aloadN X0.here hx rfl (hb hby d3_0) rfl rfl ?_
    show Steps p.tables e below (s₁.setTop (mkF m 1 #[.val (.ref a), .val .null, .unset] [.null])) _
    exact kq)
  have G48 : Go p e below A0 (s₁.setTop (mkF m 41 #[.val (.ref a), .val .null, .unset] [(.int (0 : Int32))])) := fun tq kq => G47 tq (by
    refine X0.instanceofNull hx (g := (mkF m 1 #[.val (.ref a), .val .null, .unset] [.null])) rfl rfl (hb hby d3_1) _ ?_
    show Steps p.tables e below (s₁.setTop (mkF m 4 #[.val (.ref a), .val .null, .unset] [(.int (0 : Int32))])) _
    refine XS.ifYes X0.here hx rfl (pc0 := 4) (pc' := 40) rfl (hb hby d3_4) rfl (by decide) (by decide) (by decide) ?_
    show Steps p.tables e below (s₁.setTop (mkF m 40 #[.val (.ref a), .val .null, .unset] [])) _
    refine XS.iconst X0.here hx rfl (hb hby d3_40) ?_
    show Steps p.tables e below (s₁.setTop (mkF m 41 #[.val (.ref a), .val .null, .unset] [(.int (0 : Int32))])) _
    exact kq)
  obtain ⟨fs, hr, hrun, hended, hW, hsame⟩ := X0.leave (v := some (.int (nar .boolean (0 : Int32)))) (fun h => by rw [Bd.returns] at h; cases h)
  refine ⟨_, _, (by rw [← hA0]; exact G48 _ (retN X0 hx (t := .boolean) Bd.returns (by simp) (hb hby d3_41) hr)), hrun, hended, _, _, rfl, ?_, ⟨_, rfl⟩, hW, hsame.mono (by decide) (by decide)⟩
  exact ⟨rfl, N0, e0⟩
set_option maxRecDepth 65536 in
set_option maxHeartbeats 40000000 in
theorem rmEl (l : Launch) (Z : State) (a0 : Array Value) (hw : ∀ d ∈ tables_1, d.before a0 Z = true) (ws : List Jvm.Cond) (a b : Addr) (h0 : Heap) (n0 : Nat) (Z0 : n0 ≤ h0.size) (E : Exa Z h0 b "java/lang/Long") :
    MetFree l (⟨"com/example/halyard/halyard/messages/SubscriptionAcknowledgement", "equals", "(Ljava/lang/Object;)Z"⟩ : MethodName) (head1 (Jvm.Cond.code (⟨"com/example/halyard/halyard/messages/SubscriptionAcknowledgement", "equals", "(Ljava/lang/Object;)Z"⟩ : MethodName) prog_92_method_6_code 3 (some .boolean) :: ws) ({ frames := 0, cells := 0, slots := 0, locals := 0 } : Room)) (fun aa UU => aa = #[(.ref a), (.ref b)] ∧ Z.Warmed39 UU.vm ∧ UU.heap = h0) (fun _ _ _ _ _ => True) (fun _ UU oo U' => ∃ v L, oo = .returned v ∧ Qr (.int 0) h0 n0 v U'.heap L ∧ FrameEnd UU oo U' L ({ frames := 0, cells := 0, slots := 0, locals := 0 } : Room).cells ({ frames := 0, cells := 0, slots := 0, locals := 0 } : Room).slots) := by
  refine MetFree.of_bodySF (plainFor_of_name pn_0) hisR ?_
  intro p e s m args below meth c s₁ Bd hml0 hP hK
  obtain ⟨rfl, hZ, hh⟩ := hP
  have hx := Bd.exec
  have hby := Bd.bytes
  have hml : c.maxLocals = 3 := hml0
  have hown : s.vm.findClass "com/example/halyard/halyard/messages/SubscriptionAcknowledgement" = some m.cls := findClass_of_methodNamed Bd.named
  have hnm := (name_of_methodNamed Bd.named Bd.method).1
  have X0 : Stand p l e ({ frames := 0, cells := 0, slots := 0, locals := 0 } : Room) s m #[(.ref a), (.ref b)] below meth c s₁ [] 0 0 := Stand.of_body Bd
  have e0 : s₁.heap = h0 := by rw [← hh, Bd.state]; rfl
  have N0 := Fr.nil n0
  obtain ⟨A0, hA0⟩ : ∃ A, A = s₁.setTop (entryFrame m #[(.ref a), (.ref b)] 3) := ⟨_, rfl⟩
  have G0 : Go p e below A0 (s₁.setTop (mkF m 0 #[.val (.ref a), .val (.ref b), .unset] [])) := fun tq kq => by rw [hA0]; exact castTop (ef_rmEl m a b) kq
  have G49 : Go p e below A0 (s₁.setTop (mkF m 1 #[.val (.ref a), .val (.ref b), .unset] [(.ref b)])) := fun tq kq => G0 tq (by
    refine XS.aloadN X0.here hx rfl (hb hby d3_0) rfl rfl ?_
    show Steps p.tables e below (s₁.setTop (mkF m 1 #[.val (.ref a), .val (.ref b), .unset] [(.ref b)])) _
    exact kq)
  obtain ⟨T50, X50, e50, st50⟩ := instNo X0 hx hZ hown (hw _ (List.mem_of_getElem? (i := 18) rfl)) e0 E (own_nsno (hw _ (List.mem_of_getElem? (i := 40) rfl)) (hw _ (List.mem_of_getElem? (i := 1) rfl)) (NS.step (hw _ (List.mem_of_getElem? (i := 40) rfl)) (NS.step (hw _ (List.mem_of_getElem? (i := 41) rfl)) (own_nsroot (hw _ (List.mem_of_getElem? (i := 42) rfl)) (hw _ (List.mem_of_getElem? (i := 1) rfl)) (by decide)) (by decide)) (by decide)) (by decide)) (g := (mkF m 1 #[.val (.ref a), .val (.ref b), .unset] [(.ref b)])) rfl rfl (hb hby d3_1)
  have G51 : Go p e below A0 (T50.setTop (mkF m 4 #[.val (.ref a), .val (.ref b), .unset] [(.int (0 : Int32))])) := fun tq kq => G49 tq (st50 _ kq)
  have G52 : Go p e below A0 (T50.setTop (mkF m 41 #[.val (.ref a), .val (.ref b), .unset] [(.int (0 : Int32))])) := fun tq kq => G51 tq (by
    refine XS.ifYes X50.here hx rfl (pc0 := 4) (pc' := 40) rfl (hb hby d3_4) rfl (by decide) (by decide) (by decide) ?_
    show Steps p.tables e below (T50.setTop (mkF m 40 #[.val (.ref a), .val (.ref b), .unset] [])) _
    refine XS.iconst X50.here hx rfl (hb hby d3_40) ?_
    show Steps p.tables e below (T50.setTop (mkF m 41 #[.val (.ref a), .val (.ref b), .unset] [(.int (0 : Int32))])) _
    exact kq)
  obtain ⟨fs, hr, hrun, hended, hW, hsame⟩ := X50.leave (v := some (.int (nar .boolean (0 : Int32)))) (fun h => by rw [Bd.returns] at h; cases h)
  refine ⟨_, _, (by rw [← hA0]; exact G52 _ (retN X50 hx (t := .boolean) Bd.returns (by simp) (hb hby d3_41) hr)), hrun, hended, _, _, rfl, ?_, ⟨_, rfl⟩, hW, hsame.mono (by decide) (by decide)⟩
  exact ⟨rfl, N0, e50⟩
set_option maxRecDepth 65536 in
set_option maxHeartbeats 40000000 in
theorem rmEs (l : Launch) (Z : State) (a0 : Array Value) (hw : ∀ d ∈ tables_1, d.before a0 Z = true) (ws : List Jvm.Cond) (a b : Addr) (x0 x1 y0 y1 : Int64) (h0 : Heap) (n0 : Nat) (Z0 : n0 ≤ h0.size) (E : Exa Z h0 b "com/example/halyard/halyard/messages/SubscriptionAcknowledgement") (A1 : Fld Z h0 a "com/example/halyard/halyard/messages/SubscriptionAcknowledgement" "subscriptionId" "J" (.long x0)) (A2 : Fld Z h0 a "com/example/halyard/halyard/messages/SubscriptionAcknowledgement" "sequenceNumber" "J" (.long x1)) (B1 : Fld Z h0 b "com/example/halyard/halyard/messages/SubscriptionAcknowledgement" "subscriptionId" "J" (.long y0)) (B2 : Fld Z h0 b "com/example/halyard/halyard/messages/SubscriptionAcknowledgement" "sequenceNumber" "J" (.long y1)) :
    MetFree l (⟨"com/example/halyard/halyard/messages/SubscriptionAcknowledgement", "equals", "(Ljava/lang/Object;)Z"⟩ : MethodName) (head1 (Jvm.Cond.code (⟨"com/example/halyard/halyard/messages/SubscriptionAcknowledgement", "equals", "(Ljava/lang/Object;)Z"⟩ : MethodName) prog_92_method_6_code 3 (some .boolean) :: ws) ({ frames := 0, cells := 0, slots := 0, locals := 0 } : Room)) (fun aa UU => aa = #[(.ref a), (.ref b)] ∧ Z.Warmed39 UU.vm ∧ UU.heap = h0) (fun _ _ _ _ _ => True) (fun _ UU oo U' => ∃ v L, oo = .returned v ∧ Qr (.int (own_b (y0 = x0 ∧ y1 = x1))) h0 n0 v U'.heap L ∧ FrameEnd UU oo U' L ({ frames := 0, cells := 0, slots := 0, locals := 0 } : Room).cells ({ frames := 0, cells := 0, slots := 0, locals := 0 } : Room).slots) := by
  refine MetFree.of_bodySF (plainFor_of_name pn_0) hisR ?_
  intro p e s m args below meth c s₁ Bd hml0 hP hK
  obtain ⟨rfl, hZ, hh⟩ := hP
  have hx := Bd.exec
  have hby := Bd.bytes
  have hml : c.maxLocals = 3 := hml0
  have hown : s.vm.findClass "com/example/halyard/halyard/messages/SubscriptionAcknowledgement" = some m.cls := findClass_of_methodNamed Bd.named
  have hnm := (name_of_methodNamed Bd.named Bd.method).1
  have X0 : Stand p l e ({ frames := 0, cells := 0, slots := 0, locals := 0 } : Room) s m #[(.ref a), (.ref b)] below meth c s₁ [] 0 0 := Stand.of_body Bd
  have e0 : s₁.heap = h0 := by rw [← hh, Bd.state]; rfl
  have N0 := Fr.nil n0
  obtain ⟨A0, hA0⟩ : ∃ A, A = s₁.setTop (entryFrame m #[(.ref a), (.ref b)] 3) := ⟨_, rfl⟩
  have G0 : Go p e below A0 (s₁.setTop (mkF m 0 #[.val (.ref a), .val (.ref b), .unset] [])) := fun tq kq => by rw [hA0]; exact castTop (ef_rmEs m a b) kq
  have G53 : Go p e below A0 (s₁.setTop (mkF m 1 #[.val (.ref a), .val (.ref b), .unset] [(.ref b)])) := fun tq kq => G0 tq (by
    refine XS.aloadN X0.here hx rfl (hb hby d3_0) rfl rfl ?_
    show Steps p.tables e below (s₁.setTop (mkF m 1 #[.val (.ref a), .val (.ref b), .unset] [(.ref b)])) _
    exact kq)
  obtain ⟨T54, X54, e54, st54⟩ := instY X0 hx hZ hown (hw _ (List.mem_of_getElem? (i := 18) rfl)) e0 (Ins.self E) (g := (mkF m 1 #[.val (.ref a), .val (.ref b), .unset] [(.ref b)])) rfl rfl (hb hby d3_1)
  have G55 : Go p e below A0 (T54.setTop (mkF m 4 #[.val (.ref a), .val (.ref b), .unset] [(.int (1 : Int32))])) := fun tq kq => G53 tq (st54 _ kq)
  have G56 : Go p e below A0 (T54.setTop (mkF m 8 #[.val (.ref a), .val (.ref b), .unset] [(.ref b)])) := fun tq kq => G55 tq (by
    refine XS.ifNo X54.here hx rfl (hb hby d3_4) rfl (by decide) ?_
    show Steps p.tables e below (T54.setTop (mkF m 7 #[.val (.ref a), .val (.ref b), .unset] [])) _
    refine XS.aloadN X54.here hx rfl (hb hby d3_7) rfl rfl ?_
    show Steps p.tables e below (T54.setTop (mkF m 8 #[.val (.ref a), .val (.ref b), .unset] [(.ref b)])) _
    exact kq)
  obtain ⟨T57, X57, e57, st57⟩ := castY X54 hx hZ hown (hw _ (List.mem_of_getElem? (i := 18) rfl)) e54 (Ins.self E) (g := (mkF m 8 #[.val (.ref a), .val (.ref b), .unset] [(.ref b)])) rfl rfl (hb hby d3_8)
  have G58 : Go p e below A0 (T57.setTop (mkF m 11 #[.val (.ref a), .val (.ref b), .unset] [(.ref b)])) := fun tq kq => G56 tq (st57 _ kq)
  have G59 : Go p e below A0 (T57.setTop (mkF m 13 #[.val (.ref a), .val (.ref b), .val (.ref b)] [(.ref b)])) := fun tq kq => G58 tq (by
    refine XS.astoreN X57.here hx rfl (hb hby d3_11) rfl rfl (l' := #[.val (.ref a), .val (.ref b), .val (.ref b)]) rfl ?_
    show Steps p.tables e below (T57.setTop (mkF m 12 #[.val (.ref a), .val (.ref b), .val (.ref b)] [])) _
    refine XS.aloadN X57.here hx rfl (hb hby d3_12) rfl rfl ?_
    show Steps p.tables e below (T57.setTop (mkF m 13 #[.val (.ref a), .val (.ref b), .val (.ref b)] [(.ref b)])) _
    exact kq)
  obtain ⟨T60, X60, e60, st60⟩ := getF X57 hx hZ hown (host := "") (Or.inl (hw _ (List.mem_of_getElem? (i := 9) rfl))) Via.refl e57 B1 (g := (mkF m 13 #[.val (.ref a), .val (.ref b), .val (.ref b)] [(.ref b)])) rfl rfl (hb hby d3_13)
  have G61 : Go p e below A0 (T60.setTop (mkF m 16 #[.val (.ref a), .val (.ref b), .val (.ref b)] [(.long y0)])) := fun tq kq => G59 tq (st60 _ kq)
  have G62 : Go p e below A0 (T60.setTop (mkF m 17 #[.val (.ref a), .val (.ref b), .val (.ref b)] [(.ref a), (.long y0)])) := fun tq kq => G61 tq (by
    refine XS.aloadN X60.here hx rfl (hb hby d3_16) rfl rfl ?_
    show Steps p.tables e below (T60.setTop (mkF m 17 #[.val (.ref a), .val (.ref b), .val (.ref b)] [(.ref a), (.long y0)])) _
    exact kq)
  obtain ⟨T63, X63, e63, st63⟩ := getF X60 hx hZ hown (host := "") (Or.inl (hw _ (List.mem_of_getElem? (i := 9) rfl))) Via.refl e60 A1 (g := (mkF m 17 #[.val (.ref a), .val (.ref b), .val (.ref b)] [(.ref a), (.long y0)])) rfl rfl (hb hby d3_17)
  have G64 : Go p e below A0 (T63.setTop (mkF m 20 #[.val (.ref a), .val (.ref b), .val (.ref b)] [(.long x0), (.long y0)])) := fun tq kq => G62 tq (st63 _ kq)
  have G65 : Go p e below A0 (T63.setTop (mkF m 21 #[.val (.ref a), .val (.ref b), .val (.ref b)] [(.int (lcmpW y0 x0))])) := fun tq kq => G64 tq (by
    refine XS.lcmp X63.here hx rfl (hb hby d3_20) rfl ?_
    show Steps p.tables e below (T63.setTop (mkF m 21 #[.val (.ref a), .val (.ref b), .val (.ref b)] [(.int (lcmpW y0 x0))])) _
    exact kq)
  by_cases hc66 : y0 = x0
  · have G67 : Go p e below A0 (T63.setTop (mkF m 25 #[.val (.ref a), .val (.ref b), .val (.ref b)] [(.ref b)])) := fun tq kq => G65 tq (by
      refine XS.ifNo X63.here hx rfl (hb hby d3_21) rfl ((if0 _ _).trans (teq ((lw_eq _ _).mpr hc66)).2) ?_
      show Steps p.tables e below (T63.setTop (mkF m 24 #[.val (.ref a), .val (.ref b), .val (.ref b)] [])) _
      refine XS.aloadN X63.here hx rfl (hb hby d3_24) rfl rfl ?_
      show Steps p.tables e below (T63.setTop (mkF m 25 #[.val (.ref a), .val (.ref b), .val (.ref b)] [(.ref b)])) _
      exact kq)
    obtain ⟨T68, X68, e68, st68⟩ := getF X63 hx hZ hown (host := "") (Or.inl (hw _ (List.mem_of_getElem? (i := 11) rfl))) Via.refl e63 B2 (g := (mkF m 25 #[.val (.ref a), .val (.ref b), .val (.ref b)] [(.ref b)])) rfl rfl (hb hby d3_25)
    have G69 : Go p e below A0 (T68.setTop (mkF m 28 #[.val (.ref a), .val (.ref b), .val (.ref b)] [(.long y1)])) := fun tq kq => G67 tq (st68 _ kq)
    have G70 : Go p e below A0 (T68.setTop (mkF m 29 #[.val (.ref a), .val (.ref b), .val (.ref b)] [(.ref a), (.long y1)])) := fun tq kq => G69 tq (by
      refine XS.aloadN X68.here hx rfl (hb hby d3_28) rfl rfl ?_
      show Steps p.tables e below (T68.setTop (mkF m 29 #[.val (.ref a), .val (.ref b), .val (.ref b)] [(.ref a), (.long y1)])) _
      exact kq)
    obtain ⟨T71, X71, e71, st71⟩ := getF X68 hx hZ hown (host := "") (Or.inl (hw _ (List.mem_of_getElem? (i := 11) rfl))) Via.refl e68 A2 (g := (mkF m 29 #[.val (.ref a), .val (.ref b), .val (.ref b)] [(.ref a), (.long y1)])) rfl rfl (hb hby d3_29)
    have G72 : Go p e below A0 (T71.setTop (mkF m 32 #[.val (.ref a), .val (.ref b), .val (.ref b)] [(.long x1), (.long y1)])) := fun tq kq => G70 tq (st71 _ kq)
    have G73 : Go p e below A0 (T71.setTop (mkF m 33 #[.val (.ref a), .val (.ref b), .val (.ref b)] [(.int (lcmpW y1 x1))])) := fun tq kq => G72 tq (by
      refine XS.lcmp X71.here hx rfl (hb hby d3_32) rfl ?_
      show Steps p.tables e below (T71.setTop (mkF m 33 #[.val (.ref a), .val (.ref b), .val (.ref b)] [(.int (lcmpW y1 x1))])) _
      exact kq)
    by_cases hc74 : y1 = x1
    · have G75 : Go p e below A0 (T71.setTop (mkF m 41 #[.val (.ref a), .val (.ref b), .val (.ref b)] [(.int (1 : Int32))])) := fun tq kq => G73 tq (by
        refine XS.ifNo X71.here hx rfl (hb hby d3_33) rfl ((if0 _ _).trans (teq ((lw_eq _ _).mpr hc74)).2) ?_
        show Steps p.tables e below (T71.setTop (mkF m 36 #[.val (.ref a), .val (.ref b), .val (.ref b)] [])) _
        refine XS.iconst X71.here hx rfl (hb hby d3_36) ?_
        show Steps p.tables e below (T71.setTop (mkF m 37 #[.val (.ref a), .val (.ref b), .val (.ref b)] [(.int (1 : Int32))])) _
        refine XS.goto X71.here hx rfl (pc0 := 37) (pc' := 41) rfl (hb hby d3_37) (by decide) (by decide) ?_
        show Steps p.tables e below (T71.setTop (mkF m 41 #[.val (.ref a), .val (.ref b), .val (.ref b)] [(.int (1 : Int32))])) _
        exact kq)
      obtain ⟨fs, hr, hrun, hended, hW, hsame⟩ := X71.leave (v := some (.int (nar .boolean (1 : Int32)))) (fun h => by rw [Bd.returns] at h; cases h)
      refine ⟨_, _, (by rw [← hA0]; exact G75 _ (retN X71 hx (t := .boolean) Bd.returns (by simp) (hb hby d3_41) hr)), hrun, hended, _, _, rfl, ?_, ⟨_, rfl⟩, hW, hsame.mono (by decide) (by decide)⟩
      exact ⟨(by rw [show own_b (y0 = x0 ∧ y1 = x1) = (1 : Int32) from by simp [own_b, hc66, hc74]]; rfl), N0, e71⟩
    · have G76 : Go p e below A0 (T71.setTop (mkF m 41 #[.val (.ref a), .val (.ref b), .val (.ref b)] [(.int (0 : Int32))])) := fun tq kq => G73 tq (by
        refine XS.ifYes X71.here hx rfl (pc0 := 33) (pc' := 40) rfl (hb hby d3_33) rfl ((if0 _ _).trans (feq (fun q => hc74 ((lw_eq _ _).mp q))).2) (by decide) (by decide) ?_
        show Steps p.tables e below (T71.setTop (mkF m 40 #[.val (.ref a), .val (.ref b), .val (.ref b)] [])) _
        refine XS.iconst X71.here hx rfl (hb hby d3_40) ?_
        show Steps p.tables e below (T71.setTop (mkF m 41 #[.val (.ref a), .val (.ref b), .val (.ref b)] [(.int (0 : Int32))])) _
        exact kq)
      obtain ⟨fs, hr, hrun, hended, hW, hsame⟩ := X71.leave (v := some (.int (nar .boolean (0 : Int32)))) (fun h => by rw [Bd.returns] at h; cases h)
      refine ⟨_, _, (by rw [← hA0]; exact G76 _ (retN X71 hx (t := .boolean) Bd.returns (by simp) (hb hby d3_41) hr)), hrun, hended, _, _, rfl, ?_, ⟨_, rfl⟩, hW, hsame.mono (by decide) (by decide)⟩
      exact ⟨(by rw [show own_b (y0 = x0 ∧ y1 = x1) = (0 : Int32) from by simp [own_b, hc66, hc74]]; rfl), N0, e71⟩
  · have G77 : Go p e below A0 (T63.setTop (mkF m 41 #[.val (.ref a), .val (.ref b), .val (.ref b)] [(.int (0 : Int32))])) := fun tq kq => G65 tq (by
      refine XS.ifYes X63.here hx rfl (pc0 := 21) (pc' := 40) rfl (hb hby d3_21) rfl ((if0 _ _).trans (feq (fun q => hc66 ((lw_eq _ _).mp q))).2) (by decide) (by decide) ?_
      show Steps p.tables e below (T63.setTop (mkF m 40 #[.val (.ref a), .val (.ref b), .val (.ref b)] [])) _
      refine XS.iconst X63.here hx rfl (hb hby d3_40) ?_
      show Steps p.tables e below (T63.setTop (mkF m 41 #[.val (.ref a), .val (.ref b), .val (.ref b)] [(.int (0 : Int32))])) _
      exact kq)
    obtain ⟨fs, hr, hrun, hended, hW, hsame⟩ := X63.leave (v := some (.int (nar .boolean (0 : Int32)))) (fun h => by rw [Bd.returns] at h; cases h)
    refine ⟨_, _, (by rw [← hA0]; exact G77 _ (retN X63 hx (t := .boolean) Bd.returns (by simp) (hb hby d3_41) hr)), hrun, hended, _, _, rfl, ?_, ⟨_, rfl⟩, hW, hsame.mono (by decide) (by decide)⟩
    exact ⟨(by rw [show own_b (y0 = x0 ∧ y1 = x1) = (0 : Int32) from by simp [own_b, hc66]]; rfl), N0, e63⟩
def Q0c (n0 : Nat) (v : Option Value) (L : List Loc) : Prop := v = some (.int 1) ∧ Fr n0 L
set_option maxRecDepth 65536 in
set_option maxHeartbeats 40000000 in
theorem rm0 (l : Launch) (Z : State) (a0 : Array Value) (hw : ∀ d ∈ tables_1, d.before a0 Z = true) (ws : List Jvm.Cond) (q0 q1 q2 q3 : Int64) (p4 : Int32) (ca : Addr) (cl : Cell) (h0 : Heap) (n0 : Nat) (Z0 : n0 ≤ h0.size) (hold : Old Z n0 h0) (hca : Cache Z Z.heap ca cl) :
    MetFree l x (head1 (Jvm.Cond.code x code maxLocals ret :: ws) room_1) (fun aa UU => aa = #[(.long q0), (.long q1), (.long q2), (.long q3), (.int p4)] ∧ Z.Warmed39 UU.vm ∧ UU.heap = h0) (fun _ _ _ _ _ => True) (fun _ UU oo U' => ∃ v L, oo = .returned v ∧ Q0c n0 v L ∧ FrameEnd UU oo U' L room_1.cells room_1.slots) := by
  refine MetFree.of_bodySF (plainFor_of_name pn_3) hisR ?_
  intro p e s m args below meth c s₁ Bd hml0 hP hK
  obtain ⟨rfl, hZ, hh⟩ := hP
  have hx := Bd.exec
  have hby := Bd.bytes
  have hml : c.maxLocals = 17 := hml0
  have hown : s.vm.findClass "com/example/halyard/halyard/messages/SubscriptionAcknowledgementEqualsPinLaw" = some m.cls := findClass_of_methodNamed Bd.named
  have hnm := (name_of_methodNamed Bd.named Bd.method).1
  have X0 : Stand p l e room_1 s m #[(.long q0), (.long q1), (.long q2), (.long q3), (.int p4)] below meth c s₁ [] 0 0 := Stand.of_body Bd
  have e0 : s₁.heap = h0 := by rw [← hh, Bd.state]; rfl
  have N0 := Fr.nil n0
  obtain ⟨A0, hA0⟩ : ∃ A, A = s₁.setTop (entryFrame m #[(.long q0), (.long q1), (.long q2), (.long q3), (.int p4)] maxLocals) := ⟨_, rfl⟩
  have G0 : Go p e below A0 (s₁.setTop (mkF m 0 #[.val (.long q0), .second, .val (.long q1), .second, .val (.long q2), .second, .val (.long q3), .second, .val (.int p4), .unset, .unset, .unset, .unset, .unset, .unset, .unset, .unset] [])) := fun tq kq => by rw [hA0]; exact castTop (ef_rm0 m q0 q1 q2 q3 p4) kq
  obtain ⟨T78, h78, X78, e78, E78, A78, D78, -, st78⟩ := newO X0 hx hZ hown (hw _ (List.mem_of_getElem? (i := 0) rfl)) (hw _ (List.mem_of_getElem? (i := 1) rfl)) (hw _ (List.mem_of_getElem? (i := 2) rfl)) e0 (g := (mkF m 0 #[.val (.long q0), .second, .val (.long q1), .second, .val (.long q2), .second, .val (.long q3), .second, .val (.int p4), .unset, .unset, .unset, .unset, .unset, .unset, .unset, .unset] [])) rfl (hb hby at_0) (by decide) (by decide)
  obtain ⟨b78, g78⟩ : ∃ z, z = h0.size := ⟨_, rfl⟩
  rw [← g78] at A78 D78 st78
  have sz_b78 : h0.size ≤ b78 := Nat.le_trans (Nat.le_refl h0.size) (Nat.le_of_eq g78.symm)
  have g_b78 : n0 ≤ b78 := Nat.le_trans Z0 (Nat.le_of_eq g78.symm)
  have F78_subscriptionId : Fld Z h78 b78 "com/example/halyard/halyard/messages/SubscriptionAcknowledgement" "subscriptionId" "J" (.long (0 : Int64)) := D78 (Or.inr (hw _ (List.mem_of_getElem? (i := 10) rfl))) (ty := .long) (by decide)
  have F78_sequenceNumber : Fld Z h78 b78 "com/example/halyard/halyard/messages/SubscriptionAcknowledgement" "sequenceNumber" "J" (.long (0 : Int64)) := D78 (Or.inr (hw _ (List.mem_of_getElem? (i := 12) rfl))) (ty := .long) (by decide)
  have G79 : Go p e below A0 (T78.setTop (mkF m 3 #[.val (.long q0), .second, .val (.long q1), .second, .val (.long q2), .second, .val (.long q3), .second, .val (.int p4), .unset, .unset, .unset, .unset, .unset, .unset, .unset, .unset] [(.ref b78)])) := fun tq kq => G0 tq (st78 _ kq)
  have G80 : Go p e below A0 (T78.setTop (mkF m 6 #[.val (.long q0), .second, .val (.long q1), .second, .val (.long q2), .second, .val (.long q3), .second, .val (.int p4), .unset, .unset, .unset, .unset, .unset, .unset, .unset, .unset] [(.long q1), (.long q0), (.ref b78), (.ref b78)])) := fun tq kq => G79 tq (by
    refine XS.dup X78.here hx rfl (hb hby at_3) rfl rfl ?_
    show Steps p.tables e below (T78.setTop (mkF m 4 #[.val (.long q0), .second, .val (.long q1), .second, .val (.long q2), .second, .val (.long q3), .second, .val (.int p4), .unset, .unset, .unset, .unset, .unset, .unset, .unset, .unset] [(.ref b78), (.ref b78)])) _
    refine XS.lloadN X78.here hx rfl (hb hby at_4) rfl ?_
    show Steps p.tables e below (T78.setTop (mkF m 5 #[.val (.long q0), .second, .val (.long q1), .second, .val (.long q2), .second, .val (.long q3), .second, .val (.int p4), .unset, .unset, .unset, .unset, .unset, .unset, .unset, .unset] [(.long q0), (.ref b78), (.ref b78)])) _
    refine XS.lloadN X78.here hx rfl (hb hby at_5) rfl ?_
    show Steps p.tables e below (T78.setTop (mkF m 6 #[.val (.long q0), .second, .val (.long q1), .second, .val (.long q2), .second, .val (.long q3), .second, .val (.int p4), .unset, .unset, .unset, .unset, .unset, .unset, .unset, .unset] [(.long q1), (.long q0), (.ref b78), (.ref b78)])) _
    exact kq)
  have f82 := (Nat.le_trans Z0 E78.1)
  obtain ⟨_, _, ⟨T81, L81, k81, n81⟩, -, X81, ⟨Lc81, hQ81, l81, y81, z81⟩, st81⟩ := X78.specialBack hx (y := (⟨"com/example/halyard/halyard/messages/SubscriptionAcknowledgement", "<init>", "(JJ)V"⟩ : MethodName)) rfl hown (mvT hZ (hw _ (List.mem_of_getElem? (i := 3) rfl))) (mvT hZ (hw _ (List.mem_of_getElem? (i := 4) rfl))) (mvT hZ (hw _ (List.mem_of_getElem? (i := 5) rfl))) (by decide) (backOf (W := 1) (rm1 l Z a0 hw [] b78 q0 q1 h78 n0 f82 A78 F78_subscriptionId F78_sequenceNumber g_b78) hZ (hw _ (List.mem_of_getElem? (i := 5) rfl)) (hw _ (List.mem_of_getElem? (i := 2) rfl)) (by decide) (by decide)) (g := (mkF m 6 #[.val (.long q0), .second, .val (.long q1), .second, .val (.long q2), .second, .val (.long q3), .second, .val (.int p4), .unset, .unset, .unset, .unset, .unset, .unset, .unset, .unset] [(.long q1), (.long q0), (.ref b78), (.ref b78)])) rfl (by rw [hml]; rfl) (Steps.refl _) (a := b78) (argsL := [(.long q0), (.long q1)]) (rest := [(.ref b78)]) (lenOf pd_2 rfl) rfl (by show 2 * 0 + _ ≤ _; exact Nat.le_of_eq rfl) (hb hby at_6) (fun _ _ => ⟨rfl, e78, (by decide : 1 + 0 ≤ _), (by decide : 2 + 0 ≤ _)⟩)
  dsimp only [Pt.U, Pt.locs, Pt.cells, Pt.slots] at X81 l81 y81 z81 st81 hQ81
  subst l81 y81 z81
  obtain ⟨rfl, N81q, K81, Fa81, Fb81⟩ := hQ81
  have N81 := Fr.app N0 N81q
  have G83 : Go p e below A0 (T81.setTop (mkF m 9 #[.val (.long q0), .second, .val (.long q1), .second, .val (.long q2), .second, .val (.long q3), .second, .val (.int p4), .unset, .unset, .unset, .unset, .unset, .unset, .unset, .unset] [(.ref b78)])) := fun tq kq => G80 tq (st81.trans kq)
  have G84 : Go p e below A0 (T81.setTop (mkF m 18 #[.val (.long q0), .second, .val (.long q1), .second, .val (.long q2), .second, .val (.long q3), .second, .val (.int p4), .val (.ref b78), .val (.int (p4 &&& (7 : Int32))), .unset, .unset, .unset, .unset, .unset, .unset] [])) := fun tq kq => G83 tq (by
    refine XS.astore X81.here hx rfl (hb hby at_9) rfl rfl (l' := #[.val (.long q0), .second, .val (.long q1), .second, .val (.long q2), .second, .val (.long q3), .second, .val (.int p4), .val (.ref b78), .unset, .unset, .unset, .unset, .unset, .unset, .unset]) rfl ?_
    show Steps p.tables e below (T81.setTop (mkF m 11 #[.val (.long q0), .second, .val (.long q1), .second, .val (.long q2), .second, .val (.long q3), .second, .val (.int p4), .val (.ref b78), .unset, .unset, .unset, .unset, .unset, .unset, .unset] [])) _
    refine XS.iload X81.here hx rfl (hb hby at_11) rfl ?_
    show Steps p.tables e below (T81.setTop (mkF m 13 #[.val (.long q0), .second, .val (.long q1), .second, .val (.long q2), .second, .val (.long q3), .second, .val (.int p4), .val (.ref b78), .unset, .unset, .unset, .unset, .unset, .unset, .unset] [(.int p4)])) _
    refine XS.bipush X81.here hx rfl (hb hby at_13) ?_
    show Steps p.tables e below (T81.setTop (mkF m 15 #[.val (.long q0), .second, .val (.long q1), .second, .val (.long q2), .second, .val (.long q3), .second, .val (.int p4), .val (.ref b78), .unset, .unset, .unset, .unset, .unset, .unset, .unset] [(.int (7 : Int32)), (.int p4)])) _
    refine XS.iand X81.here hx rfl (hb hby at_15) rfl ?_
    show Steps p.tables e below (T81.setTop (mkF m 16 #[.val (.long q0), .second, .val (.long q1), .second, .val (.long q2), .second, .val (.long q3), .second, .val (.int p4), .val (.ref b78), .unset, .unset, .unset, .unset, .unset, .unset, .unset] [(.int (p4 &&& (7 : Int32)))])) _
    refine XS.istore X81.here hx rfl (hb hby at_16) rfl (l' := #[.val (.long q0), .second, .val (.long q1), .second, .val (.long q2), .second, .val (.long q3), .second, .val (.int p4), .val (.ref b78), .val (.int (p4 &&& (7 : Int32))), .unset, .unset, .unset, .unset, .unset, .unset]) rfl ?_
    show Steps p.tables e below (T81.setTop (mkF m 18 #[.val (.long q0), .second, .val (.long q1), .second, .val (.long q2), .second, .val (.long q3), .second, .val (.int p4), .val (.ref b78), .val (.int (p4 &&& (7 : Int32))), .unset, .unset, .unset, .unset, .unset, .unset] [])) _
    exact kq)
  obtain ⟨v32, G85⟩ : ∃ (v32 : Int64), Go p e below A0 (T81.setTop (mkF m 32 #[.val (.long q0), .second, .val (.long q1), .second, .val (.long q2), .second, .val (.long q3), .second, .val (.int p4), .val (.ref b78), .val (.int (p4 &&& (7 : Int32))), .unset, .unset, .unset, .unset, .unset, .unset] [(.long v32)])) := by
    have G86 : Go p e below A0 (T81.setTop (mkF m 23 #[.val (.long q0), .second, .val (.long q1), .second, .val (.long q2), .second, .val (.long q3), .second, .val (.int p4), .val (.ref b78), .val (.int (p4 &&& (7 : Int32))), .unset, .unset, .unset, .unset, .unset, .unset] [(.int (p4 &&& (8 : Int32)))])) := fun tq kq => G84 tq (by
      refine XS.iload X81.here hx rfl (hb hby at_18) rfl ?_
      show Steps p.tables e below (T81.setTop (mkF m 20 #[.val (.long q0), .second, .val (.long q1), .second, .val (.long q2), .second, .val (.long q3), .second, .val (.int p4), .val (.ref b78), .val (.int (p4 &&& (7 : Int32))), .unset, .unset, .unset, .unset, .unset, .unset] [(.int p4)])) _
      refine XS.bipush X81.here hx rfl (hb hby at_20) ?_
      show Steps p.tables e below (T81.setTop (mkF m 22 #[.val (.long q0), .second, .val (.long q1), .second, .val (.long q2), .second, .val (.long q3), .second, .val (.int p4), .val (.ref b78), .val (.int (p4 &&& (7 : Int32))), .unset, .unset, .unset, .unset, .unset, .unset] [(.int (8 : Int32)), (.int p4)])) _
      refine XS.iand X81.here hx rfl (hb hby at_22) rfl ?_
      show Steps p.tables e below (T81.setTop (mkF m 23 #[.val (.long q0), .second, .val (.long q1), .second, .val (.long q2), .second, .val (.long q3), .second, .val (.int p4), .val (.ref b78), .val (.int (p4 &&& (7 : Int32))), .unset, .unset, .unset, .unset, .unset, .unset] [(.int (p4 &&& (8 : Int32)))])) _
      exact kq)
    by_cases hc87 : (p4 &&& (8 : Int32)) = (0 : Int32)
    · have G88 : Go p e below A0 (T81.setTop (mkF m 32 #[.val (.long q0), .second, .val (.long q1), .second, .val (.long q2), .second, .val (.long q3), .second, .val (.int p4), .val (.ref b78), .val (.int (p4 &&& (7 : Int32))), .unset, .unset, .unset, .unset, .unset, .unset] [(.long q2)])) := fun tq kq => G86 tq (by
        refine XS.ifYes X81.here hx rfl (pc0 := 23) (pc' := 30) rfl (hb hby at_23) rfl ((if0 _ _).trans (teq hc87).1) (by decide) (by decide) ?_
        show Steps p.tables e below (T81.setTop (mkF m 30 #[.val (.long q0), .second, .val (.long q1), .second, .val (.long q2), .second, .val (.long q3), .second, .val (.int p4), .val (.ref b78), .val (.int (p4 &&& (7 : Int32))), .unset, .unset, .unset, .unset, .unset, .unset] [])) _
        refine XS.lload X81.here hx rfl (hb hby at_30) rfl ?_
        show Steps p.tables e below (T81.setTop (mkF m 32 #[.val (.long q0), .second, .val (.long q1), .second, .val (.long q2), .second, .val (.long q3), .second, .val (.int p4), .val (.ref b78), .val (.int (p4 &&& (7 : Int32))), .unset, .unset, .unset, .unset, .unset, .unset] [(.long q2)])) _
        exact kq)
      exact ⟨q2, G88⟩
    · have G89 : Go p e below A0 (T81.setTop (mkF m 32 #[.val (.long q0), .second, .val (.long q1), .second, .val (.long q2), .second, .val (.long q3), .second, .val (.int p4), .val (.ref b78), .val (.int (p4 &&& (7 : Int32))), .unset, .unset, .unset, .unset, .unset, .unset] [(.long q0)])) := fun tq kq => G86 tq (by
        refine XS.ifNo X81.here hx rfl (hb hby at_23) rfl ((if0 _ _).trans (feq hc87).1) ?_
        show Steps p.tables e below (T81.setTop (mkF m 26 #[.val (.long q0), .second, .val (.long q1), .second, .val (.long q2), .second, .val (.long q3), .second, .val (.int p4), .val (.ref b78), .val (.int (p4 &&& (7 : Int32))), .unset, .unset, .unset, .unset, .unset, .unset] [])) _
        refine XS.lloadN X81.here hx rfl (hb hby at_26) rfl ?_
        show Steps p.tables e below (T81.setTop (mkF m 27 #[.val (.long q0), .second, .val (.long q1), .second, .val (.long q2), .second, .val (.long q3), .second, .val (.int p4), .val (.ref b78), .val (.int (p4 &&& (7 : Int32))), .unset, .unset, .unset, .unset, .unset, .unset] [(.long q0)])) _
        refine XS.goto X81.here hx rfl (pc0 := 27) (pc' := 32) rfl (hb hby at_27) (by decide) (by decide) ?_
        show Steps p.tables e below (T81.setTop (mkF m 32 #[.val (.long q0), .second, .val (.long q1), .second, .val (.long q2), .second, .val (.long q3), .second, .val (.int p4), .val (.ref b78), .val (.int (p4 &&& (7 : Int32))), .unset, .unset, .unset, .unset, .unset, .unset] [(.long q0)])) _
        exact kq)
      exact ⟨q0, G89⟩
  have G90 : Go p e below A0 (T81.setTop (mkF m 34 #[.val (.long q0), .second, .val (.long q1), .second, .val (.long q2), .second, .val (.long q3), .second, .val (.int p4), .val (.ref b78), .val (.int (p4 &&& (7 : Int32))), .val (.long v32), .second, .unset, .unset, .unset, .unset] [])) := fun tq kq => G85 tq (by
    refine XS.lstore X81.here hx rfl (hb hby at_32) rfl (l' := #[.val (.long q0), .second, .val (.long q1), .second, .val (.long q2), .second, .val (.long q3), .second, .val (.int p4), .val (.ref b78), .val (.int (p4 &&& (7 : Int32))), .val (.long v32), .second, .unset, .unset, .unset, .unset]) rfl ?_
    show Steps p.tables e below (T81.setTop (mkF m 34 #[.val (.long q0), .second, .val (.long q1), .second, .val (.long q2), .second, .val (.long q3), .second, .val (.int p4), .val (.ref b78), .val (.int (p4 &&& (7 : Int32))), .val (.long v32), .second, .unset, .unset, .unset, .unset] [])) _
    exact kq)
  obtain ⟨v48, G91⟩ : ∃ (v48 : Int64), Go p e below A0 (T81.setTop (mkF m 48 #[.val (.long q0), .second, .val (.long q1), .second, .val (.long q2), .second, .val (.long q3), .second, .val (.int p4), .val (.ref b78), .val (.int (p4 &&& (7 : Int32))), .val (.long v32), .second, .unset, .unset, .unset, .unset] [(.long v48)])) := by
    have G92 : Go p e below A0 (T81.setTop (mkF m 39 #[.val (.long q0), .second, .val (.long q1), .second, .val (.long q2), .second, .val (.long q3), .second, .val (.int p4), .val (.ref b78), .val (.int (p4 &&& (7 : Int32))), .val (.long v32), .second, .unset, .unset, .unset, .unset] [(.int (p4 &&& (16 : Int32)))])) := fun tq kq => G90 tq (by
      refine XS.iload X81.here hx rfl (hb hby at_34) rfl ?_
      show Steps p.tables e below (T81.setTop (mkF m 36 #[.val (.long q0), .second, .val (.long q1), .second, .val (.long q2), .second, .val (.long q3), .second, .val (.int p4), .val (.ref b78), .val (.int (p4 &&& (7 : Int32))), .val (.long v32), .second, .unset, .unset, .unset, .unset] [(.int p4)])) _
      refine XS.bipush X81.here hx rfl (hb hby at_36) ?_
      show Steps p.tables e below (T81.setTop (mkF m 38 #[.val (.long q0), .second, .val (.long q1), .second, .val (.long q2), .second, .val (.long q3), .second, .val (.int p4), .val (.ref b78), .val (.int (p4 &&& (7 : Int32))), .val (.long v32), .second, .unset, .unset, .unset, .unset] [(.int (16 : Int32)), (.int p4)])) _
      refine XS.iand X81.here hx rfl (hb hby at_38) rfl ?_
      show Steps p.tables e below (T81.setTop (mkF m 39 #[.val (.long q0), .second, .val (.long q1), .second, .val (.long q2), .second, .val (.long q3), .second, .val (.int p4), .val (.ref b78), .val (.int (p4 &&& (7 : Int32))), .val (.long v32), .second, .unset, .unset, .unset, .unset] [(.int (p4 &&& (16 : Int32)))])) _
      exact kq)
    by_cases hc93 : (p4 &&& (16 : Int32)) = (0 : Int32)
    · have G94 : Go p e below A0 (T81.setTop (mkF m 48 #[.val (.long q0), .second, .val (.long q1), .second, .val (.long q2), .second, .val (.long q3), .second, .val (.int p4), .val (.ref b78), .val (.int (p4 &&& (7 : Int32))), .val (.long v32), .second, .unset, .unset, .unset, .unset] [(.long q3)])) := fun tq kq => G92 tq (by
        refine XS.ifYes X81.here hx rfl (pc0 := 39) (pc' := 46) rfl (hb hby at_39) rfl ((if0 _ _).trans (teq hc93).1) (by decide) (by decide) ?_
        show Steps p.tables e below (T81.setTop (mkF m 46 #[.val (.long q0), .second, .val (.long q1), .second, .val (.long q2), .second, .val (.long q3), .second, .val (.int p4), .val (.ref b78), .val (.int (p4 &&& (7 : Int32))), .val (.long v32), .second, .unset, .unset, .unset, .unset] [])) _
        refine XS.lload X81.here hx rfl (hb hby at_46) rfl ?_
        show Steps p.tables e below (T81.setTop (mkF m 48 #[.val (.long q0), .second, .val (.long q1), .second, .val (.long q2), .second, .val (.long q3), .second, .val (.int p4), .val (.ref b78), .val (.int (p4 &&& (7 : Int32))), .val (.long v32), .second, .unset, .unset, .unset, .unset] [(.long q3)])) _
        exact kq)
      exact ⟨q3, G94⟩
    · have G95 : Go p e below A0 (T81.setTop (mkF m 48 #[.val (.long q0), .second, .val (.long q1), .second, .val (.long q2), .second, .val (.long q3), .second, .val (.int p4), .val (.ref b78), .val (.int (p4 &&& (7 : Int32))), .val (.long v32), .second, .unset, .unset, .unset, .unset] [(.long q1)])) := fun tq kq => G92 tq (by
        refine XS.ifNo X81.here hx rfl (hb hby at_39) rfl ((if0 _ _).trans (feq hc93).1) ?_
        show Steps p.tables e below (T81.setTop (mkF m 42 #[.val (.long q0), .second, .val (.long q1), .second, .val (.long q2), .second, .val (.long q3), .second, .val (.int p4), .val (.ref b78), .val (.int (p4 &&& (7 : Int32))), .val (.long v32), .second, .unset, .unset, .unset, .unset] [])) _
        refine XS.lloadN X81.here hx rfl (hb hby at_42) rfl ?_
        show Steps p.tables e below (T81.setTop (mkF m 43 #[.val (.long q0), .second, .val (.long q1), .second, .val (.long q2), .second, .val (.long q3), .second, .val (.int p4), .val (.ref b78), .val (.int (p4 &&& (7 : Int32))), .val (.long v32), .second, .unset, .unset, .unset, .unset] [(.long q1)])) _
        refine XS.goto X81.here hx rfl (pc0 := 43) (pc' := 48) rfl (hb hby at_43) (by decide) (by decide) ?_
        show Steps p.tables e below (T81.setTop (mkF m 48 #[.val (.long q0), .second, .val (.long q1), .second, .val (.long q2), .second, .val (.long q3), .second, .val (.int p4), .val (.ref b78), .val (.int (p4 &&& (7 : Int32))), .val (.long v32), .second, .unset, .unset, .unset, .unset] [(.long q1)])) _
        exact kq)
      exact ⟨q1, G95⟩
  have G96 : Go p e below A0 (T81.setTop (mkF m 52 #[.val (.long q0), .second, .val (.long q1), .second, .val (.long q2), .second, .val (.long q3), .second, .val (.int p4), .val (.ref b78), .val (.int (p4 &&& (7 : Int32))), .val (.long v32), .second, .val (.long v48), .second, .unset, .unset] [(.int (p4 &&& (7 : Int32)))])) := fun tq kq => G91 tq (by
    refine XS.lstore X81.here hx rfl (hb hby at_48) rfl (l' := #[.val (.long q0), .second, .val (.long q1), .second, .val (.long q2), .second, .val (.long q3), .second, .val (.int p4), .val (.ref b78), .val (.int (p4 &&& (7 : Int32))), .val (.long v32), .second, .val (.long v48), .second, .unset, .unset]) rfl ?_
    show Steps p.tables e below (T81.setTop (mkF m 50 #[.val (.long q0), .second, .val (.long q1), .second, .val (.long q2), .second, .val (.long q3), .second, .val (.int p4), .val (.ref b78), .val (.int (p4 &&& (7 : Int32))), .val (.long v32), .second, .val (.long v48), .second, .unset, .unset] [])) _
    refine XS.iload X81.here hx rfl (hb hby at_50) rfl ?_
    show Steps p.tables e below (T81.setTop (mkF m 52 #[.val (.long q0), .second, .val (.long q1), .second, .val (.long q2), .second, .val (.long q3), .second, .val (.int p4), .val (.ref b78), .val (.int (p4 &&& (7 : Int32))), .val (.long v32), .second, .val (.long v48), .second, .unset, .unset] [(.int (p4 &&& (7 : Int32)))])) _
    exact kq)
  by_cases hc97 : (p4 &&& (7 : Int32)) = (0 : Int32)
  · have G98 : Go p e below A0 (T81.setTop (mkF m 58 #[.val (.long q0), .second, .val (.long q1), .second, .val (.long q2), .second, .val (.long q3), .second, .val (.int p4), .val (.ref b78), .val (.int (p4 &&& (7 : Int32))), .val (.long v32), .second, .val (.long v48), .second, .unset, .unset] [.null, (.ref b78)])) := fun tq kq => G96 tq (by
      refine XS.ifNo X81.here hx rfl (hb hby at_52) rfl ((if0 _ _).trans (teq hc97).2) ?_
      show Steps p.tables e below (T81.setTop (mkF m 55 #[.val (.long q0), .second, .val (.long q1), .second, .val (.long q2), .second, .val (.long q3), .second, .val (.int p4), .val (.ref b78), .val (.int (p4 &&& (7 : Int32))), .val (.long v32), .second, .val (.long v48), .second, .unset, .unset] [])) _
      refine XS.aload X81.here hx rfl (hb hby at_55) rfl rfl ?_
      show Steps p.tables e below (T81.setTop (mkF m 57 #[.val (.long q0), .second, .val (.long q1), .second, .val (.long q2), .second, .val (.long q3), .second, .val (.int p4), .val (.ref b78), .val (.int (p4 &&& (7 : Int32))), .val (.long v32), .second, .val (.long v48), .second, .unset, .unset] [(.ref b78)])) _
      refine XS.aconstNull X81.here hx rfl (hb hby at_57) ?_
      show Steps p.tables e below (T81.setTop (mkF m 58 #[.val (.long q0), .second, .val (.long q1), .second, .val (.long q2), .second, .val (.long q3), .second, .val (.int p4), .val (.ref b78), .val (.int (p4 &&& (7 : Int32))), .val (.long v32), .second, .val (.long v48), .second, .unset, .unset] [.null, (.ref b78)])) _
      exact kq)
    have f100 := (Nat.le_trans f82 K81.1)
    have f101 := (A78.keep K81)
    obtain ⟨cq99, kq99, q99a, q99b, q99c⟩ := isOf hZ rfl f101
    obtain ⟨_, _, ⟨T99, L99, k99, n99⟩, -, X99, ⟨Lc99, hQ99, l99, y99, z99⟩, st99⟩ := X81.virtualBack hx (y := (⟨"com/example/halyard/halyard/messages/SubscriptionAcknowledgement", "equals", "(Ljava/lang/Object;)Z"⟩ : MethodName)) (z := (⟨"com/example/halyard/halyard/messages/SubscriptionAcknowledgement", "equals", "(Ljava/lang/Object;)Z"⟩ : MethodName)) hown (mvT hZ (hw _ (List.mem_of_getElem? (i := 13) rfl))) (mvT hZ (hw _ (List.mem_of_getElem? (i := 14) rfl))) (notFace_of_selects (args := #[]) (mvT hZ (hw _ (List.mem_of_getElem? (i := 16) rfl)))) (mvT hZ (hw _ (List.mem_of_getElem? (i := 16) rfl))) (mvT hZ (hw _ (List.mem_of_getElem? (i := 15) rfl))) (by decide) (backOf (W := 0) (rmEn l Z a0 hw [] b78 T81.heap n0 f100) hZ (hw _ (List.mem_of_getElem? (i := 17) rfl)) (hw _ (List.mem_of_getElem? (i := 2) rfl)) (by decide) (by decide)) q99a q99c (g := (mkF m 58 #[.val (.long q0), .second, .val (.long q1), .second, .val (.long q2), .second, .val (.long q3), .second, .val (.int p4), .val (.ref b78), .val (.int (p4 &&& (7 : Int32))), .val (.long v32), .second, .val (.long v48), .second, .unset, .unset] [.null, (.ref b78)])) rfl (by rw [hml]; rfl) (Steps.refl _) (argsL := [.null]) (rest := []) (lenOf pd_3 rfl) rfl (by show 2 * 0 + _ ≤ _; exact Nat.le_of_eq rfl) (hb hby at_58) (fun _ _ => ⟨rfl, rfl, (by decide : 1 + 0 ≤ _), (by decide : 2 + 0 ≤ _)⟩)
    dsimp only [Pt.U, Pt.locs, Pt.cells, Pt.slots] at X99 l99 y99 z99 st99 hQ99
    subst l99 y99 z99
    obtain ⟨rfl, N99q, e99⟩ := hQ99
    have N99 := Fr.app N81 N99q
    have G102 : Go p e below A0 (T99.setTop (mkF m 61 #[.val (.long q0), .second, .val (.long q1), .second, .val (.long q2), .second, .val (.long q3), .second, .val (.int p4), .val (.ref b78), .val (.int (p4 &&& (7 : Int32))), .val (.long v32), .second, .val (.long v48), .second, .unset, .unset] [(.int (0 : Int32))])) := fun tq kq => G98 tq (st99.trans kq)
    have G103 : Go p e below A0 (T99.setTop (mkF m 69 #[.val (.long q0), .second, .val (.long q1), .second, .val (.long q2), .second, .val (.long q3), .second, .val (.int p4), .val (.ref b78), .val (.int (p4 &&& (7 : Int32))), .val (.long v32), .second, .val (.long v48), .second, .unset, .unset] [(.int (1 : Int32))])) := fun tq kq => G102 tq (by
      refine XS.ifNo X99.here hx rfl (hb hby at_61) rfl (by decide) ?_
      show Steps p.tables e below (T99.setTop (mkF m 64 #[.val (.long q0), .second, .val (.long q1), .second, .val (.long q2), .second, .val (.long q3), .second, .val (.int p4), .val (.ref b78), .val (.int (p4 &&& (7 : Int32))), .val (.long v32), .second, .val (.long v48), .second, .unset, .unset] [])) _
      refine XS.iconst X99.here hx rfl (hb hby at_64) ?_
      show Steps p.tables e below (T99.setTop (mkF m 65 #[.val (.long q0), .second, .val (.long q1), .second, .val (.long q2), .second, .val (.long q3), .second, .val (.int p4), .val (.ref b78), .val (.int (p4 &&& (7 : Int32))), .val (.long v32), .second, .val (.long v48), .second, .unset, .unset] [(.int (1 : Int32))])) _
      refine XS.goto X99.here hx rfl (pc0 := 65) (pc' := 69) rfl (hb hby at_65) (by decide) (by decide) ?_
      show Steps p.tables e below (T99.setTop (mkF m 69 #[.val (.long q0), .second, .val (.long q1), .second, .val (.long q2), .second, .val (.long q3), .second, .val (.int p4), .val (.ref b78), .val (.int (p4 &&& (7 : Int32))), .val (.long v32), .second, .val (.long v48), .second, .unset, .unset] [(.int (1 : Int32))])) _
      exact kq)
    obtain ⟨fs, hr, hrun, hended, hW, hsame⟩ := X99.leave (v := some (.int (nar .boolean (1 : Int32)))) (fun h => by rw [Bd.returns] at h; cases h)
    refine ⟨_, _, (by rw [← hA0]; exact G103 _ (retN X99 hx (t := .boolean) Bd.returns (by simp) (hb hby at_69) hr)), hrun, hended, _, _, rfl, ?_, ⟨_, rfl⟩, hW, hsame.mono (by decide) (by decide)⟩
    exact ⟨rfl, N99⟩
  · have G104 : Go p e below A0 (T81.setTop (mkF m 73 #[.val (.long q0), .second, .val (.long q1), .second, .val (.long q2), .second, .val (.long q3), .second, .val (.int p4), .val (.ref b78), .val (.int (p4 &&& (7 : Int32))), .val (.long v32), .second, .val (.long v48), .second, .unset, .unset] [(.int (1 : Int32)), (.int (p4 &&& (7 : Int32)))])) := fun tq kq => G96 tq (by
      refine XS.ifYes X81.here hx rfl (pc0 := 52) (pc' := 70) rfl (hb hby at_52) rfl ((if0 _ _).trans (feq hc97).2) (by decide) (by decide) ?_
      show Steps p.tables e below (T81.setTop (mkF m 70 #[.val (.long q0), .second, .val (.long q1), .second, .val (.long q2), .second, .val (.long q3), .second, .val (.int p4), .val (.ref b78), .val (.int (p4 &&& (7 : Int32))), .val (.long v32), .second, .val (.long v48), .second, .unset, .unset] [])) _
      refine XS.iload X81.here hx rfl (hb hby at_70) rfl ?_
      show Steps p.tables e below (T81.setTop (mkF m 72 #[.val (.long q0), .second, .val (.long q1), .second, .val (.long q2), .second, .val (.long q3), .second, .val (.int p4), .val (.ref b78), .val (.int (p4 &&& (7 : Int32))), .val (.long v32), .second, .val (.long v48), .second, .unset, .unset] [(.int (p4 &&& (7 : Int32)))])) _
      refine XS.iconst X81.here hx rfl (hb hby at_72) ?_
      show Steps p.tables e below (T81.setTop (mkF m 73 #[.val (.long q0), .second, .val (.long q1), .second, .val (.long q2), .second, .val (.long q3), .second, .val (.int p4), .val (.ref b78), .val (.int (p4 &&& (7 : Int32))), .val (.long v32), .second, .val (.long v48), .second, .unset, .unset] [(.int (1 : Int32)), (.int (p4 &&& (7 : Int32)))])) _
      exact kq)
    by_cases hc105 : (p4 &&& (7 : Int32)) = (1 : Int32)
    · have G106 : Go p e below A0 (T81.setTop (mkF m 79 #[.val (.long q0), .second, .val (.long q1), .second, .val (.long q2), .second, .val (.long q3), .second, .val (.int p4), .val (.ref b78), .val (.int (p4 &&& (7 : Int32))), .val (.long v32), .second, .val (.long v48), .second, .unset, .unset] [(.long q0), (.ref b78)])) := fun tq kq => G104 tq (by
        refine XS.icmpNo X81.here hx rfl (hb hby at_73) rfl (teq hc105).2 ?_
        show Steps p.tables e below (T81.setTop (mkF m 76 #[.val (.long q0), .second, .val (.long q1), .second, .val (.long q2), .second, .val (.long q3), .second, .val (.int p4), .val (.ref b78), .val (.int (p4 &&& (7 : Int32))), .val (.long v32), .second, .val (.long v48), .second, .unset, .unset] [])) _
        refine XS.aload X81.here hx rfl (hb hby at_76) rfl rfl ?_
        show Steps p.tables e below (T81.setTop (mkF m 78 #[.val (.long q0), .second, .val (.long q1), .second, .val (.long q2), .second, .val (.long q3), .second, .val (.int p4), .val (.ref b78), .val (.int (p4 &&& (7 : Int32))), .val (.long v32), .second, .val (.long v48), .second, .unset, .unset] [(.ref b78)])) _
        refine XS.lloadN X81.here hx rfl (hb hby at_78) rfl ?_
        show Steps p.tables e below (T81.setTop (mkF m 79 #[.val (.long q0), .second, .val (.long q1), .second, .val (.long q2), .second, .val (.long q3), .second, .val (.int p4), .val (.ref b78), .val (.int (p4 &&& (7 : Int32))), .val (.long v32), .second, .val (.long v48), .second, .unset, .unset] [(.long q0), (.ref b78)])) _
        exact kq)
      have f108 := (Nat.le_trans f82 K81.1)
      have f109 := ((hold.ext E78).keep K81 (allS g_b78 all0))
      obtain ⟨_, _, ⟨T107, L107, k107, n107⟩, -, X107, ⟨Lc107, hQ107, l107, y107, z107⟩, st107⟩ := Jvm.LawKit.callS X81 hx (y := (⟨"java/lang/Long", "valueOf", "(J)Ljava/lang/Long;"⟩ : MethodName)) hown (mvT hZ (hw _ (List.mem_of_getElem? (i := 20) rfl))) (mvT hZ (hw _ (List.mem_of_getElem? (i := 21) rfl))) (mvT hZ (hw _ (List.mem_of_getElem? (i := 22) rfl))) (mvT hZ (hw _ (List.mem_of_getElem? (i := 23) rfl))) (by decide) (backOf (W := 1) (rm4 l Z a0 hw [] q0 ca cl T81.heap n0 f108 (hca.ext f109.2)) hZ (hw _ (List.mem_of_getElem? (i := 23) rfl)) (hw _ (List.mem_of_getElem? (i := 22) rfl)) (by decide) (by decide)) (g := (mkF m 79 #[.val (.long q0), .second, .val (.long q1), .second, .val (.long q2), .second, .val (.long q3), .second, .val (.int p4), .val (.ref b78), .val (.int (p4 &&& (7 : Int32))), .val (.long v32), .second, .val (.long v48), .second, .unset, .unset] [(.long q0), (.ref b78)])) rfl (by rw [hml]; rfl) (argsL := [(.long q0)]) (rest := [(.ref b78)]) (lenOf pd_4 rfl) rfl (by show 2 * 0 + _ ≤ _; exact Nat.le_of_eq rfl) (hb hby at_79) (fun _ _ => ⟨rfl, rfl, (by decide : 1 + 1 ≤ _), (by decide : 2 + 1 ≤ _)⟩)
      dsimp only [Pt.U, Pt.locs, Pt.cells, Pt.slots] at X107 l107 y107 z107 st107 hQ107
      subst l107 y107 z107
      obtain ⟨r107, rfl, N107q, K107, E107⟩ := hQ107
      have N107 := Fr.app N81 N107q
      have G110 : Go p e below A0 (T107.setTop (mkF m 82 #[.val (.long q0), .second, .val (.long q1), .second, .val (.long q2), .second, .val (.long q3), .second, .val (.int p4), .val (.ref b78), .val (.int (p4 &&& (7 : Int32))), .val (.long v32), .second, .val (.long v48), .second, .unset, .unset] [(.ref r107), (.ref b78)])) := fun tq kq => G106 tq (st107 _ kq)
      have f112 := (Nat.le_trans f108 K107.1)
      have f113 := ((A78.keep K81).keep K107)
      obtain ⟨cq111, kq111, q111a, q111b, q111c⟩ := isOf hZ rfl f113
      obtain ⟨_, _, ⟨T111, L111, k111, n111⟩, -, X111, ⟨Lc111, hQ111, l111, y111, z111⟩, st111⟩ := X107.virtualBack hx (y := (⟨"com/example/halyard/halyard/messages/SubscriptionAcknowledgement", "equals", "(Ljava/lang/Object;)Z"⟩ : MethodName)) (z := (⟨"com/example/halyard/halyard/messages/SubscriptionAcknowledgement", "equals", "(Ljava/lang/Object;)Z"⟩ : MethodName)) hown (mvT hZ (hw _ (List.mem_of_getElem? (i := 13) rfl))) (mvT hZ (hw _ (List.mem_of_getElem? (i := 14) rfl))) (notFace_of_selects (args := #[]) (mvT hZ (hw _ (List.mem_of_getElem? (i := 16) rfl)))) (mvT hZ (hw _ (List.mem_of_getElem? (i := 16) rfl))) (mvT hZ (hw _ (List.mem_of_getElem? (i := 15) rfl))) (by decide) (backOf (W := 0) (rmEl l Z a0 hw [] b78 r107 T107.heap n0 f112 E107) hZ (hw _ (List.mem_of_getElem? (i := 17) rfl)) (hw _ (List.mem_of_getElem? (i := 2) rfl)) (by decide) (by decide)) q111a q111c (g := (mkF m 82 #[.val (.long q0), .second, .val (.long q1), .second, .val (.long q2), .second, .val (.long q3), .second, .val (.int p4), .val (.ref b78), .val (.int (p4 &&& (7 : Int32))), .val (.long v32), .second, .val (.long v48), .second, .unset, .unset] [(.ref r107), (.ref b78)])) rfl (by rw [hml]; rfl) (Steps.refl _) (argsL := [(.ref r107)]) (rest := []) (lenOf pd_3 rfl) rfl (by show 2 * 0 + _ ≤ _; exact Nat.le_of_eq rfl) (hb hby at_82) (fun _ _ => ⟨rfl, rfl, (by decide : 2 + 0 ≤ _), (by decide : 3 + 0 ≤ _)⟩)
      dsimp only [Pt.U, Pt.locs, Pt.cells, Pt.slots] at X111 l111 y111 z111 st111 hQ111
      subst l111 y111 z111
      obtain ⟨rfl, N111q, e111⟩ := hQ111
      have N111 := Fr.app N107 N111q
      have G114 : Go p e below A0 (T111.setTop (mkF m 85 #[.val (.long q0), .second, .val (.long q1), .second, .val (.long q2), .second, .val (.long q3), .second, .val (.int p4), .val (.ref b78), .val (.int (p4 &&& (7 : Int32))), .val (.long v32), .second, .val (.long v48), .second, .unset, .unset] [(.int (0 : Int32))])) := fun tq kq => G110 tq (st111.trans kq)
      have G115 : Go p e below A0 (T111.setTop (mkF m 93 #[.val (.long q0), .second, .val (.long q1), .second, .val (.long q2), .second, .val (.long q3), .second, .val (.int p4), .val (.ref b78), .val (.int (p4 &&& (7 : Int32))), .val (.long v32), .second, .val (.long v48), .second, .unset, .unset] [(.int (1 : Int32))])) := fun tq kq => G114 tq (by
        refine XS.ifNo X111.here hx rfl (hb hby at_85) rfl (by decide) ?_
        show Steps p.tables e below (T111.setTop (mkF m 88 #[.val (.long q0), .second, .val (.long q1), .second, .val (.long q2), .second, .val (.long q3), .second, .val (.int p4), .val (.ref b78), .val (.int (p4 &&& (7 : Int32))), .val (.long v32), .second, .val (.long v48), .second, .unset, .unset] [])) _
        refine XS.iconst X111.here hx rfl (hb hby at_88) ?_
        show Steps p.tables e below (T111.setTop (mkF m 89 #[.val (.long q0), .second, .val (.long q1), .second, .val (.long q2), .second, .val (.long q3), .second, .val (.int p4), .val (.ref b78), .val (.int (p4 &&& (7 : Int32))), .val (.long v32), .second, .val (.long v48), .second, .unset, .unset] [(.int (1 : Int32))])) _
        refine XS.goto X111.here hx rfl (pc0 := 89) (pc' := 93) rfl (hb hby at_89) (by decide) (by decide) ?_
        show Steps p.tables e below (T111.setTop (mkF m 93 #[.val (.long q0), .second, .val (.long q1), .second, .val (.long q2), .second, .val (.long q3), .second, .val (.int p4), .val (.ref b78), .val (.int (p4 &&& (7 : Int32))), .val (.long v32), .second, .val (.long v48), .second, .unset, .unset] [(.int (1 : Int32))])) _
        exact kq)
      obtain ⟨fs, hr, hrun, hended, hW, hsame⟩ := X111.leave (v := some (.int (nar .boolean (1 : Int32)))) (fun h => by rw [Bd.returns] at h; cases h)
      refine ⟨_, _, (by rw [← hA0]; exact G115 _ (retN X111 hx (t := .boolean) Bd.returns (by simp) (hb hby at_93) hr)), hrun, hended, _, _, rfl, ?_, ⟨_, rfl⟩, hW, hsame.mono (by decide) (by decide)⟩
      exact ⟨rfl, N111⟩
    · have G116 : Go p e below A0 (T81.setTop (mkF m 97 #[.val (.long q0), .second, .val (.long q1), .second, .val (.long q2), .second, .val (.long q3), .second, .val (.int p4), .val (.ref b78), .val (.int (p4 &&& (7 : Int32))), .val (.long v32), .second, .val (.long v48), .second, .unset, .unset] [(.int (2 : Int32)), (.int (p4 &&& (7 : Int32)))])) := fun tq kq => G104 tq (by
        refine XS.icmpYes X81.here hx rfl (pc0 := 73) (pc' := 94) rfl (hb hby at_73) rfl (feq hc105).2 (by decide) (by decide) ?_
        show Steps p.tables e below (T81.setTop (mkF m 94 #[.val (.long q0), .second, .val (.long q1), .second, .val (.long q2), .second, .val (.long q3), .second, .val (.int p4), .val (.ref b78), .val (.int (p4 &&& (7 : Int32))), .val (.long v32), .second, .val (.long v48), .second, .unset, .unset] [])) _
        refine XS.iload X81.here hx rfl (hb hby at_94) rfl ?_
        show Steps p.tables e below (T81.setTop (mkF m 96 #[.val (.long q0), .second, .val (.long q1), .second, .val (.long q2), .second, .val (.long q3), .second, .val (.int p4), .val (.ref b78), .val (.int (p4 &&& (7 : Int32))), .val (.long v32), .second, .val (.long v48), .second, .unset, .unset] [(.int (p4 &&& (7 : Int32)))])) _
        refine XS.iconst X81.here hx rfl (hb hby at_96) ?_
        show Steps p.tables e below (T81.setTop (mkF m 97 #[.val (.long q0), .second, .val (.long q1), .second, .val (.long q2), .second, .val (.long q3), .second, .val (.int p4), .val (.ref b78), .val (.int (p4 &&& (7 : Int32))), .val (.long v32), .second, .val (.long v48), .second, .unset, .unset] [(.int (2 : Int32)), (.int (p4 &&& (7 : Int32)))])) _
        exact kq)
      by_cases hc117 : (p4 &&& (7 : Int32)) = (2 : Int32)
      · have G118 : Go p e below A0 (T81.setTop (mkF m 104 #[.val (.long q0), .second, .val (.long q1), .second, .val (.long q2), .second, .val (.long q3), .second, .val (.int p4), .val (.ref b78), .val (.int (p4 &&& (7 : Int32))), .val (.long v32), .second, .val (.long v48), .second, .unset, .unset] [(.ref b78), (.ref b78)])) := fun tq kq => G116 tq (by
          refine XS.icmpNo X81.here hx rfl (hb hby at_97) rfl (teq hc117).2 ?_
          show Steps p.tables e below (T81.setTop (mkF m 100 #[.val (.long q0), .second, .val (.long q1), .second, .val (.long q2), .second, .val (.long q3), .second, .val (.int p4), .val (.ref b78), .val (.int (p4 &&& (7 : Int32))), .val (.long v32), .second, .val (.long v48), .second, .unset, .unset] [])) _
          refine XS.aload X81.here hx rfl (hb hby at_100) rfl rfl ?_
          show Steps p.tables e below (T81.setTop (mkF m 102 #[.val (.long q0), .second, .val (.long q1), .second, .val (.long q2), .second, .val (.long q3), .second, .val (.int p4), .val (.ref b78), .val (.int (p4 &&& (7 : Int32))), .val (.long v32), .second, .val (.long v48), .second, .unset, .unset] [(.ref b78)])) _
          refine XS.aload X81.here hx rfl (hb hby at_102) rfl rfl ?_
          show Steps p.tables e below (T81.setTop (mkF m 104 #[.val (.long q0), .second, .val (.long q1), .second, .val (.long q2), .second, .val (.long q3), .second, .val (.int p4), .val (.ref b78), .val (.int (p4 &&& (7 : Int32))), .val (.long v32), .second, .val (.long v48), .second, .unset, .unset] [(.ref b78), (.ref b78)])) _
          exact kq)
        have f120 := (Nat.le_trans f82 K81.1)
        have f121 := (A78.keep K81)
        obtain ⟨cq119, kq119, q119a, q119b, q119c⟩ := isOf hZ rfl f121
        obtain ⟨_, _, ⟨T119, L119, k119, n119⟩, -, X119, ⟨Lc119, hQ119, l119, y119, z119⟩, st119⟩ := X81.virtualBack hx (y := (⟨"com/example/halyard/halyard/messages/SubscriptionAcknowledgement", "equals", "(Ljava/lang/Object;)Z"⟩ : MethodName)) (z := (⟨"com/example/halyard/halyard/messages/SubscriptionAcknowledgement", "equals", "(Ljava/lang/Object;)Z"⟩ : MethodName)) hown (mvT hZ (hw _ (List.mem_of_getElem? (i := 13) rfl))) (mvT hZ (hw _ (List.mem_of_getElem? (i := 14) rfl))) (notFace_of_selects (args := #[]) (mvT hZ (hw _ (List.mem_of_getElem? (i := 16) rfl)))) (mvT hZ (hw _ (List.mem_of_getElem? (i := 16) rfl))) (mvT hZ (hw _ (List.mem_of_getElem? (i := 15) rfl))) (by decide) (backOf (W := 0) (rmEs l Z a0 hw [] b78 b78 q0 q1 q0 q1 T81.heap n0 f120 f121 Fa81 Fb81 Fa81 Fb81) hZ (hw _ (List.mem_of_getElem? (i := 17) rfl)) (hw _ (List.mem_of_getElem? (i := 2) rfl)) (by decide) (by decide)) q119a q119c (g := (mkF m 104 #[.val (.long q0), .second, .val (.long q1), .second, .val (.long q2), .second, .val (.long q3), .second, .val (.int p4), .val (.ref b78), .val (.int (p4 &&& (7 : Int32))), .val (.long v32), .second, .val (.long v48), .second, .unset, .unset] [(.ref b78), (.ref b78)])) rfl (by rw [hml]; rfl) (Steps.refl _) (argsL := [(.ref b78)]) (rest := []) (lenOf pd_3 rfl) rfl (by show 2 * 0 + _ ≤ _; exact Nat.le_of_eq rfl) (hb hby at_104) (fun _ _ => ⟨rfl, rfl, (by decide : 1 + 0 ≤ _), (by decide : 2 + 0 ≤ _)⟩)
        dsimp only [Pt.U, Pt.locs, Pt.cells, Pt.slots] at X119 l119 y119 z119 st119 hQ119
        subst l119 y119 z119
        obtain ⟨rfl, N119q, e119⟩ := hQ119
        have N119 := Fr.app N81 N119q
        have G122 : Go p e below A0 (T119.setTop (mkF m 107 #[.val (.long q0), .second, .val (.long q1), .second, .val (.long q2), .second, .val (.long q3), .second, .val (.int p4), .val (.ref b78), .val (.int (p4 &&& (7 : Int32))), .val (.long v32), .second, .val (.long v48), .second, .unset, .unset] [(.int (own_b (q0 = q0 ∧ q1 = q1)))])) := fun tq kq => G118 tq (st119.trans kq)
        obtain ⟨fs, hr, hrun, hended, hW, hsame⟩ := X119.leave (v := some (.int (nar .boolean (own_b (q0 = q0 ∧ q1 = q1))))) (fun h => by rw [Bd.returns] at h; cases h)
        refine ⟨_, _, (by rw [← hA0]; exact G122 _ (retN X119 hx (t := .boolean) Bd.returns (by simp) (hb hby at_107) hr)), hrun, hended, _, _, rfl, ?_, ⟨_, rfl⟩, hW, hsame.mono (by decide) (by decide)⟩
        exact ⟨(by rw [own_bt ⟨rfl, rfl⟩]; rfl), N119⟩
      · have G123 : Go p e below A0 (T81.setTop (mkF m 108 #[.val (.long q0), .second, .val (.long q1), .second, .val (.long q2), .second, .val (.long q3), .second, .val (.int p4), .val (.ref b78), .val (.int (p4 &&& (7 : Int32))), .val (.long v32), .second, .val (.long v48), .second, .unset, .unset] [])) := fun tq kq => G116 tq (by
          refine XS.icmpYes X81.here hx rfl (pc0 := 97) (pc' := 108) rfl (hb hby at_97) rfl (feq hc117).2 (by decide) (by decide) ?_
          show Steps p.tables e below (T81.setTop (mkF m 108 #[.val (.long q0), .second, .val (.long q1), .second, .val (.long q2), .second, .val (.long q3), .second, .val (.int p4), .val (.ref b78), .val (.int (p4 &&& (7 : Int32))), .val (.long v32), .second, .val (.long v48), .second, .unset, .unset] [])) _
          exact kq)
        have f125 := (Nat.le_trans f82 K81.1)
        obtain ⟨T124, h124, X124, e124, E124, A124, D124, -, st124⟩ := newO X81 hx hZ hown (hw _ (List.mem_of_getElem? (i := 0) rfl)) (hw _ (List.mem_of_getElem? (i := 1) rfl)) (hw _ (List.mem_of_getElem? (i := 2) rfl)) rfl (g := (mkF m 108 #[.val (.long q0), .second, .val (.long q1), .second, .val (.long q2), .second, .val (.long q3), .second, .val (.int p4), .val (.ref b78), .val (.int (p4 &&& (7 : Int32))), .val (.long v32), .second, .val (.long v48), .second, .unset, .unset] [])) rfl (hb hby at_108) (by decide) (by decide)
        obtain ⟨b124, g124⟩ : ∃ z, z = T81.heap.size := ⟨_, rfl⟩
        rw [← g124] at A124 D124 st124
        have f126 := (Nat.le_trans (Nat.le_trans (Nat.le_refl h0.size) E78.1) K81.1)
        have sz_b124 : h0.size ≤ b124 := Nat.le_trans f126 (Nat.le_of_eq g124.symm)
        have g_b124 : n0 ≤ b124 := Nat.le_trans f125 (Nat.le_of_eq g124.symm)
        have ne_b78_b124 : b78 ≠ b124 := Nat.ne_of_lt (Nat.lt_of_lt_of_le (A78.keep K81).lt (Nat.le_of_eq g124.symm))
        have F124_subscriptionId : Fld Z h124 b124 "com/example/halyard/halyard/messages/SubscriptionAcknowledgement" "subscriptionId" "J" (.long (0 : Int64)) := D124 (Or.inr (hw _ (List.mem_of_getElem? (i := 10) rfl))) (ty := .long) (by decide)
        have F124_sequenceNumber : Fld Z h124 b124 "com/example/halyard/halyard/messages/SubscriptionAcknowledgement" "sequenceNumber" "J" (.long (0 : Int64)) := D124 (Or.inr (hw _ (List.mem_of_getElem? (i := 12) rfl))) (ty := .long) (by decide)
        have G127 : Go p e below A0 (T124.setTop (mkF m 111 #[.val (.long q0), .second, .val (.long q1), .second, .val (.long q2), .second, .val (.long q3), .second, .val (.int p4), .val (.ref b78), .val (.int (p4 &&& (7 : Int32))), .val (.long v32), .second, .val (.long v48), .second, .unset, .unset] [(.ref b124)])) := fun tq kq => G123 tq (st124 _ kq)
        have G128 : Go p e below A0 (T124.setTop (mkF m 116 #[.val (.long q0), .second, .val (.long q1), .second, .val (.long q2), .second, .val (.long q3), .second, .val (.int p4), .val (.ref b78), .val (.int (p4 &&& (7 : Int32))), .val (.long v32), .second, .val (.long v48), .second, .unset, .unset] [(.long v48), (.long v32), (.ref b124), (.ref b124)])) := fun tq kq => G127 tq (by
          refine XS.dup X124.here hx rfl (hb hby at_111) rfl rfl ?_
          show Steps p.tables e below (T124.setTop (mkF m 112 #[.val (.long q0), .second, .val (.long q1), .second, .val (.long q2), .second, .val (.long q3), .second, .val (.int p4), .val (.ref b78), .val (.int (p4 &&& (7 : Int32))), .val (.long v32), .second, .val (.long v48), .second, .unset, .unset] [(.ref b124), (.ref b124)])) _
          refine XS.lload X124.here hx rfl (hb hby at_112) rfl ?_
          show Steps p.tables e below (T124.setTop (mkF m 114 #[.val (.long q0), .second, .val (.long q1), .second, .val (.long q2), .second, .val (.long q3), .second, .val (.int p4), .val (.ref b78), .val (.int (p4 &&& (7 : Int32))), .val (.long v32), .second, .val (.long v48), .second, .unset, .unset] [(.long v32), (.ref b124), (.ref b124)])) _
          refine XS.lload X124.here hx rfl (hb hby at_114) rfl ?_
          show Steps p.tables e below (T124.setTop (mkF m 116 #[.val (.long q0), .second, .val (.long q1), .second, .val (.long q2), .second, .val (.long q3), .second, .val (.int p4), .val (.ref b78), .val (.int (p4 &&& (7 : Int32))), .val (.long v32), .second, .val (.long v48), .second, .unset, .unset] [(.long v48), (.long v32), (.ref b124), (.ref b124)])) _
          exact kq)
        have f130 := (Nat.le_trans f125 E124.1)
        obtain ⟨_, _, ⟨T129, L129, k129, n129⟩, -, X129, ⟨Lc129, hQ129, l129, y129, z129⟩, st129⟩ := X124.specialBack hx (y := (⟨"com/example/halyard/halyard/messages/SubscriptionAcknowledgement", "<init>", "(JJ)V"⟩ : MethodName)) rfl hown (mvT hZ (hw _ (List.mem_of_getElem? (i := 3) rfl))) (mvT hZ (hw _ (List.mem_of_getElem? (i := 4) rfl))) (mvT hZ (hw _ (List.mem_of_getElem? (i := 5) rfl))) (by decide) (backOf (W := 1) (rm1 l Z a0 hw [] b124 v32 v48 h124 n0 f130 A124 F124_subscriptionId F124_sequenceNumber g_b124) hZ (hw _ (List.mem_of_getElem? (i := 5) rfl)) (hw _ (List.mem_of_getElem? (i := 2) rfl)) (by decide) (by decide)) (g := (mkF m 116 #[.val (.long q0), .second, .val (.long q1), .second, .val (.long q2), .second, .val (.long q3), .second, .val (.int p4), .val (.ref b78), .val (.int (p4 &&& (7 : Int32))), .val (.long v32), .second, .val (.long v48), .second, .unset, .unset] [(.long v48), (.long v32), (.ref b124), (.ref b124)])) rfl (by rw [hml]; rfl) (Steps.refl _) (a := b124) (argsL := [(.long v32), (.long v48)]) (rest := [(.ref b124)]) (lenOf pd_2 rfl) rfl (by show 2 * 0 + _ ≤ _; exact Nat.le_of_eq rfl) (hb hby at_116) (fun _ _ => ⟨rfl, e124, (by decide : 2 + 0 ≤ _), (by decide : 4 + 0 ≤ _)⟩)
        dsimp only [Pt.U, Pt.locs, Pt.cells, Pt.slots] at X129 l129 y129 z129 st129 hQ129
        subst l129 y129 z129
        obtain ⟨rfl, N129q, K129, Fa129, Fb129⟩ := hQ129
        have N129 := Fr.app N81 N129q
        have G131 : Go p e below A0 (T129.setTop (mkF m 119 #[.val (.long q0), .second, .val (.long q1), .second, .val (.long q2), .second, .val (.long q3), .second, .val (.int p4), .val (.ref b78), .val (.int (p4 &&& (7 : Int32))), .val (.long v32), .second, .val (.long v48), .second, .unset, .unset] [(.ref b124)])) := fun tq kq => G128 tq (st129.trans kq)
        have G132 : Go p e below A0 (T129.setTop (mkF m 121 #[.val (.long q0), .second, .val (.long q1), .second, .val (.long q2), .second, .val (.long q3), .second, .val (.int p4), .val (.ref b78), .val (.int (p4 &&& (7 : Int32))), .val (.long v32), .second, .val (.long v48), .second, .val (.ref b124), .unset] [])) := fun tq kq => G131 tq (by
          refine XS.astore X129.here hx rfl (hb hby at_119) rfl rfl (l' := #[.val (.long q0), .second, .val (.long q1), .second, .val (.long q2), .second, .val (.long q3), .second, .val (.int p4), .val (.ref b78), .val (.int (p4 &&& (7 : Int32))), .val (.long v32), .second, .val (.long v48), .second, .val (.ref b124), .unset]) rfl ?_
          show Steps p.tables e below (T129.setTop (mkF m 121 #[.val (.long q0), .second, .val (.long q1), .second, .val (.long q2), .second, .val (.long q3), .second, .val (.int p4), .val (.ref b78), .val (.int (p4 &&& (7 : Int32))), .val (.long v32), .second, .val (.long v48), .second, .val (.ref b124), .unset] [])) _
          exact kq)
        obtain ⟨v140, hG133, G133⟩ : ∃ (v140 : Int32), (v140 = own_b (v32 = q0 ∧ v48 = q1)) ∧ Go p e below A0 (T129.setTop (mkF m 140 #[.val (.long q0), .second, .val (.long q1), .second, .val (.long q2), .second, .val (.long q3), .second, .val (.int p4), .val (.ref b78), .val (.int (p4 &&& (7 : Int32))), .val (.long v32), .second, .val (.long v48), .second, .val (.ref b124), .unset] [(.int v140)])) := by
          have G134 : Go p e below A0 (T129.setTop (mkF m 125 #[.val (.long q0), .second, .val (.long q1), .second, .val (.long q2), .second, .val (.long q3), .second, .val (.int p4), .val (.ref b78), .val (.int (p4 &&& (7 : Int32))), .val (.long v32), .second, .val (.long v48), .second, .val (.ref b124), .unset] [(.int (lcmpW v32 q0))])) := fun tq kq => G132 tq (by
            refine XS.lload X129.here hx rfl (hb hby at_121) rfl ?_
            show Steps p.tables e below (T129.setTop (mkF m 123 #[.val (.long q0), .second, .val (.long q1), .second, .val (.long q2), .second, .val (.long q3), .second, .val (.int p4), .val (.ref b78), .val (.int (p4 &&& (7 : Int32))), .val (.long v32), .second, .val (.long v48), .second, .val (.ref b124), .unset] [(.long v32)])) _
            refine XS.lloadN X129.here hx rfl (hb hby at_123) rfl ?_
            show Steps p.tables e below (T129.setTop (mkF m 124 #[.val (.long q0), .second, .val (.long q1), .second, .val (.long q2), .second, .val (.long q3), .second, .val (.int p4), .val (.ref b78), .val (.int (p4 &&& (7 : Int32))), .val (.long v32), .second, .val (.long v48), .second, .val (.ref b124), .unset] [(.long q0), (.long v32)])) _
            refine XS.lcmp X129.here hx rfl (hb hby at_124) rfl ?_
            show Steps p.tables e below (T129.setTop (mkF m 125 #[.val (.long q0), .second, .val (.long q1), .second, .val (.long q2), .second, .val (.long q3), .second, .val (.int p4), .val (.ref b78), .val (.int (p4 &&& (7 : Int32))), .val (.long v32), .second, .val (.long v48), .second, .val (.ref b124), .unset] [(.int (lcmpW v32 q0))])) _
            exact kq)
          by_cases hc135 : v32 = q0
          · have G136 : Go p e below A0 (T129.setTop (mkF m 132 #[.val (.long q0), .second, .val (.long q1), .second, .val (.long q2), .second, .val (.long q3), .second, .val (.int p4), .val (.ref b78), .val (.int (p4 &&& (7 : Int32))), .val (.long v32), .second, .val (.long v48), .second, .val (.ref b124), .unset] [(.int (lcmpW v48 q1))])) := fun tq kq => G134 tq (by
              refine XS.ifNo X129.here hx rfl (hb hby at_125) rfl ((if0 _ _).trans (teq ((lw_eq _ _).mpr hc135)).2) ?_
              show Steps p.tables e below (T129.setTop (mkF m 128 #[.val (.long q0), .second, .val (.long q1), .second, .val (.long q2), .second, .val (.long q3), .second, .val (.int p4), .val (.ref b78), .val (.int (p4 &&& (7 : Int32))), .val (.long v32), .second, .val (.long v48), .second, .val (.ref b124), .unset] [])) _
              refine XS.lload X129.here hx rfl (hb hby at_128) rfl ?_
              show Steps p.tables e below (T129.setTop (mkF m 130 #[.val (.long q0), .second, .val (.long q1), .second, .val (.long q2), .second, .val (.long q3), .second, .val (.int p4), .val (.ref b78), .val (.int (p4 &&& (7 : Int32))), .val (.long v32), .second, .val (.long v48), .second, .val (.ref b124), .unset] [(.long v48)])) _
              refine XS.lloadN X129.here hx rfl (hb hby at_130) rfl ?_
              show Steps p.tables e below (T129.setTop (mkF m 131 #[.val (.long q0), .second, .val (.long q1), .second, .val (.long q2), .second, .val (.long q3), .second, .val (.int p4), .val (.ref b78), .val (.int (p4 &&& (7 : Int32))), .val (.long v32), .second, .val (.long v48), .second, .val (.ref b124), .unset] [(.long q1), (.long v48)])) _
              refine XS.lcmp X129.here hx rfl (hb hby at_131) rfl ?_
              show Steps p.tables e below (T129.setTop (mkF m 132 #[.val (.long q0), .second, .val (.long q1), .second, .val (.long q2), .second, .val (.long q3), .second, .val (.int p4), .val (.ref b78), .val (.int (p4 &&& (7 : Int32))), .val (.long v32), .second, .val (.long v48), .second, .val (.ref b124), .unset] [(.int (lcmpW v48 q1))])) _
              exact kq)
            by_cases hc137 : v48 = q1
            · have G138 : Go p e below A0 (T129.setTop (mkF m 140 #[.val (.long q0), .second, .val (.long q1), .second, .val (.long q2), .second, .val (.long q3), .second, .val (.int p4), .val (.ref b78), .val (.int (p4 &&& (7 : Int32))), .val (.long v32), .second, .val (.long v48), .second, .val (.ref b124), .unset] [(.int (1 : Int32))])) := fun tq kq => G136 tq (by
                refine XS.ifNo X129.here hx rfl (hb hby at_132) rfl ((if0 _ _).trans (teq ((lw_eq _ _).mpr hc137)).2) ?_
                show Steps p.tables e below (T129.setTop (mkF m 135 #[.val (.long q0), .second, .val (.long q1), .second, .val (.long q2), .second, .val (.long q3), .second, .val (.int p4), .val (.ref b78), .val (.int (p4 &&& (7 : Int32))), .val (.long v32), .second, .val (.long v48), .second, .val (.ref b124), .unset] [])) _
                refine XS.iconst X129.here hx rfl (hb hby at_135) ?_
                show Steps p.tables e below (T129.setTop (mkF m 136 #[.val (.long q0), .second, .val (.long q1), .second, .val (.long q2), .second, .val (.long q3), .second, .val (.int p4), .val (.ref b78), .val (.int (p4 &&& (7 : Int32))), .val (.long v32), .second, .val (.long v48), .second, .val (.ref b124), .unset] [(.int (1 : Int32))])) _
                refine XS.goto X129.here hx rfl (pc0 := 136) (pc' := 140) rfl (hb hby at_136) (by decide) (by decide) ?_
                show Steps p.tables e below (T129.setTop (mkF m 140 #[.val (.long q0), .second, .val (.long q1), .second, .val (.long q2), .second, .val (.long q3), .second, .val (.int p4), .val (.ref b78), .val (.int (p4 &&& (7 : Int32))), .val (.long v32), .second, .val (.long v48), .second, .val (.ref b124), .unset] [(.int (1 : Int32))])) _
                exact kq)
              exact ⟨(1 : Int32), (by simp [own_b, hc97, hc105, hc117, hc135, hc137]), G138⟩
            · have G139 : Go p e below A0 (T129.setTop (mkF m 140 #[.val (.long q0), .second, .val (.long q1), .second, .val (.long q2), .second, .val (.long q3), .second, .val (.int p4), .val (.ref b78), .val (.int (p4 &&& (7 : Int32))), .val (.long v32), .second, .val (.long v48), .second, .val (.ref b124), .unset] [(.int (0 : Int32))])) := fun tq kq => G136 tq (by
                refine XS.ifYes X129.here hx rfl (pc0 := 132) (pc' := 139) rfl (hb hby at_132) rfl ((if0 _ _).trans (feq (fun q => hc137 ((lw_eq _ _).mp q))).2) (by decide) (by decide) ?_
                show Steps p.tables e below (T129.setTop (mkF m 139 #[.val (.long q0), .second, .val (.long q1), .second, .val (.long q2), .second, .val (.long q3), .second, .val (.int p4), .val (.ref b78), .val (.int (p4 &&& (7 : Int32))), .val (.long v32), .second, .val (.long v48), .second, .val (.ref b124), .unset] [])) _
                refine XS.iconst X129.here hx rfl (hb hby at_139) ?_
                show Steps p.tables e below (T129.setTop (mkF m 140 #[.val (.long q0), .second, .val (.long q1), .second, .val (.long q2), .second, .val (.long q3), .second, .val (.int p4), .val (.ref b78), .val (.int (p4 &&& (7 : Int32))), .val (.long v32), .second, .val (.long v48), .second, .val (.ref b124), .unset] [(.int (0 : Int32))])) _
                exact kq)
              exact ⟨(0 : Int32), (by simp [own_b, hc97, hc105, hc117, hc135, hc137]), G139⟩
          · have G140 : Go p e below A0 (T129.setTop (mkF m 140 #[.val (.long q0), .second, .val (.long q1), .second, .val (.long q2), .second, .val (.long q3), .second, .val (.int p4), .val (.ref b78), .val (.int (p4 &&& (7 : Int32))), .val (.long v32), .second, .val (.long v48), .second, .val (.ref b124), .unset] [(.int (0 : Int32))])) := fun tq kq => G134 tq (by
              refine XS.ifYes X129.here hx rfl (pc0 := 125) (pc' := 139) rfl (hb hby at_125) rfl ((if0 _ _).trans (feq (fun q => hc135 ((lw_eq _ _).mp q))).2) (by decide) (by decide) ?_
              show Steps p.tables e below (T129.setTop (mkF m 139 #[.val (.long q0), .second, .val (.long q1), .second, .val (.long q2), .second, .val (.long q3), .second, .val (.int p4), .val (.ref b78), .val (.int (p4 &&& (7 : Int32))), .val (.long v32), .second, .val (.long v48), .second, .val (.ref b124), .unset] [])) _
              refine XS.iconst X129.here hx rfl (hb hby at_139) ?_
              show Steps p.tables e below (T129.setTop (mkF m 140 #[.val (.long q0), .second, .val (.long q1), .second, .val (.long q2), .second, .val (.long q3), .second, .val (.int p4), .val (.ref b78), .val (.int (p4 &&& (7 : Int32))), .val (.long v32), .second, .val (.long v48), .second, .val (.ref b124), .unset] [(.int (0 : Int32))])) _
              exact kq)
            exact ⟨(0 : Int32), (by simp [own_b, hc97, hc105, hc117, hc135]), G140⟩
        subst hG133
        have G141 : Go p e below A0 (T129.setTop (mkF m 146 #[.val (.long q0), .second, .val (.long q1), .second, .val (.long q2), .second, .val (.long q3), .second, .val (.int p4), .val (.ref b78), .val (.int (p4 &&& (7 : Int32))), .val (.long v32), .second, .val (.long v48), .second, .val (.ref b124), .val (.int (own_b (v32 = q0 ∧ v48 = q1)))] [(.ref b124), (.ref b78)])) := fun tq kq => G133 tq (by
          refine XS.istore X129.here hx rfl (hb hby at_140) rfl (l' := #[.val (.long q0), .second, .val (.long q1), .second, .val (.long q2), .second, .val (.long q3), .second, .val (.int p4), .val (.ref b78), .val (.int (p4 &&& (7 : Int32))), .val (.long v32), .second, .val (.long v48), .second, .val (.ref b124), .val (.int (own_b (v32 = q0 ∧ v48 = q1)))]) rfl ?_
          show Steps p.tables e below (T129.setTop (mkF m 142 #[.val (.long q0), .second, .val (.long q1), .second, .val (.long q2), .second, .val (.long q3), .second, .val (.int p4), .val (.ref b78), .val (.int (p4 &&& (7 : Int32))), .val (.long v32), .second, .val (.long v48), .second, .val (.ref b124), .val (.int (own_b (v32 = q0 ∧ v48 = q1)))] [])) _
          refine XS.aload X129.here hx rfl (hb hby at_142) rfl rfl ?_
          show Steps p.tables e below (T129.setTop (mkF m 144 #[.val (.long q0), .second, .val (.long q1), .second, .val (.long q2), .second, .val (.long q3), .second, .val (.int p4), .val (.ref b78), .val (.int (p4 &&& (7 : Int32))), .val (.long v32), .second, .val (.long v48), .second, .val (.ref b124), .val (.int (own_b (v32 = q0 ∧ v48 = q1)))] [(.ref b78)])) _
          refine XS.aload X129.here hx rfl (hb hby at_144) rfl rfl ?_
          show Steps p.tables e below (T129.setTop (mkF m 146 #[.val (.long q0), .second, .val (.long q1), .second, .val (.long q2), .second, .val (.long q3), .second, .val (.int p4), .val (.ref b78), .val (.int (p4 &&& (7 : Int32))), .val (.long v32), .second, .val (.long v48), .second, .val (.ref b124), .val (.int (own_b (v32 = q0 ∧ v48 = q1)))] [(.ref b124), (.ref b78)])) _
          exact kq)
        have f143 := (Nat.le_trans f130 K129.1)
        have f144 := (A124.keep K129)
        have f145 := ((Fa81.ext E124).keep K129 (ninS ne_b78_b124 nin0))
        have f146 := ((Fb81.ext E124).keep K129 (ninS ne_b78_b124 nin0))
        have f147 := (((A78.keep K81).ext E124).keep K129)
        obtain ⟨cq142, kq142, q142a, q142b, q142c⟩ := isOf hZ rfl f147
        obtain ⟨_, _, ⟨T142, L142, k142, n142⟩, -, X142, ⟨Lc142, hQ142, l142, y142, z142⟩, st142⟩ := X129.virtualBack hx (y := (⟨"com/example/halyard/halyard/messages/SubscriptionAcknowledgement", "equals", "(Ljava/lang/Object;)Z"⟩ : MethodName)) (z := (⟨"com/example/halyard/halyard/messages/SubscriptionAcknowledgement", "equals", "(Ljava/lang/Object;)Z"⟩ : MethodName)) hown (mvT hZ (hw _ (List.mem_of_getElem? (i := 13) rfl))) (mvT hZ (hw _ (List.mem_of_getElem? (i := 14) rfl))) (notFace_of_selects (args := #[]) (mvT hZ (hw _ (List.mem_of_getElem? (i := 16) rfl)))) (mvT hZ (hw _ (List.mem_of_getElem? (i := 16) rfl))) (mvT hZ (hw _ (List.mem_of_getElem? (i := 15) rfl))) (by decide) (backOf (W := 0) (rmEs l Z a0 hw [] b78 b124 q0 q1 v32 v48 T129.heap n0 f143 f144 f145 f146 Fa129 Fb129) hZ (hw _ (List.mem_of_getElem? (i := 17) rfl)) (hw _ (List.mem_of_getElem? (i := 2) rfl)) (by decide) (by decide)) q142a q142c (g := (mkF m 146 #[.val (.long q0), .second, .val (.long q1), .second, .val (.long q2), .second, .val (.long q3), .second, .val (.int p4), .val (.ref b78), .val (.int (p4 &&& (7 : Int32))), .val (.long v32), .second, .val (.long v48), .second, .val (.ref b124), .val (.int (own_b (v32 = q0 ∧ v48 = q1)))] [(.ref b124), (.ref b78)])) rfl (by rw [hml]; rfl) (Steps.refl _) (argsL := [(.ref b124)]) (rest := []) (lenOf pd_3 rfl) rfl (by show 2 * 0 + _ ≤ _; exact Nat.le_of_eq rfl) (hb hby at_146) (fun _ _ => ⟨rfl, rfl, (by decide : 2 + 0 ≤ _), (by decide : 4 + 0 ≤ _)⟩)
        dsimp only [Pt.U, Pt.locs, Pt.cells, Pt.slots] at X142 l142 y142 z142 st142 hQ142
        subst l142 y142 z142
        obtain ⟨rfl, N142q, e142⟩ := hQ142
        have N142 := Fr.app N129 N142q
        have G148 : Go p e below A0 (T142.setTop (mkF m 149 #[.val (.long q0), .second, .val (.long q1), .second, .val (.long q2), .second, .val (.long q3), .second, .val (.int p4), .val (.ref b78), .val (.int (p4 &&& (7 : Int32))), .val (.long v32), .second, .val (.long v48), .second, .val (.ref b124), .val (.int (own_b (v32 = q0 ∧ v48 = q1)))] [(.int (own_b (v32 = q0 ∧ v48 = q1)))])) := fun tq kq => G141 tq (st142.trans kq)
        have G149 : Go p e below A0 (T142.setTop (mkF m 158 #[.val (.long q0), .second, .val (.long q1), .second, .val (.long q2), .second, .val (.long q3), .second, .val (.int p4), .val (.ref b78), .val (.int (p4 &&& (7 : Int32))), .val (.long v32), .second, .val (.long v48), .second, .val (.ref b124), .val (.int (own_b (v32 = q0 ∧ v48 = q1)))] [(.ref b78), (.ref b124)])) := fun tq kq => G148 tq (by
          refine XS.iload X142.here hx rfl (hb hby at_149) rfl ?_
          show Steps p.tables e below (T142.setTop (mkF m 151 #[.val (.long q0), .second, .val (.long q1), .second, .val (.long q2), .second, .val (.long q3), .second, .val (.int p4), .val (.ref b78), .val (.int (p4 &&& (7 : Int32))), .val (.long v32), .second, .val (.long v48), .second, .val (.ref b124), .val (.int (own_b (v32 = q0 ∧ v48 = q1)))] [(.int (own_b (v32 = q0 ∧ v48 = q1))), (.int (own_b (v32 = q0 ∧ v48 = q1)))])) _
          refine XS.icmpNo X142.here hx rfl (hb hby at_151) rfl (teq (rfl : (own_b (v32 = q0 ∧ v48 = q1)) = (own_b (v32 = q0 ∧ v48 = q1)))).2 ?_
          show Steps p.tables e below (T142.setTop (mkF m 154 #[.val (.long q0), .second, .val (.long q1), .second, .val (.long q2), .second, .val (.long q3), .second, .val (.int p4), .val (.ref b78), .val (.int (p4 &&& (7 : Int32))), .val (.long v32), .second, .val (.long v48), .second, .val (.ref b124), .val (.int (own_b (v32 = q0 ∧ v48 = q1)))] [])) _
          refine XS.aload X142.here hx rfl (hb hby at_154) rfl rfl ?_
          show Steps p.tables e below (T142.setTop (mkF m 156 #[.val (.long q0), .second, .val (.long q1), .second, .val (.long q2), .second, .val (.long q3), .second, .val (.int p4), .val (.ref b78), .val (.int (p4 &&& (7 : Int32))), .val (.long v32), .second, .val (.long v48), .second, .val (.ref b124), .val (.int (own_b (v32 = q0 ∧ v48 = q1)))] [(.ref b124)])) _
          refine XS.aload X142.here hx rfl (hb hby at_156) rfl rfl ?_
          show Steps p.tables e below (T142.setTop (mkF m 158 #[.val (.long q0), .second, .val (.long q1), .second, .val (.long q2), .second, .val (.long q3), .second, .val (.int p4), .val (.ref b78), .val (.int (p4 &&& (7 : Int32))), .val (.long v32), .second, .val (.long v48), .second, .val (.ref b124), .val (.int (own_b (v32 = q0 ∧ v48 = q1)))] [(.ref b78), (.ref b124)])) _
          exact kq)
        obtain ⟨cq150, kq150, q150a, q150b, q150c⟩ := isOf hZ e142 f144
        obtain ⟨_, _, ⟨T150, L150, k150, n150⟩, -, X150, ⟨Lc150, hQ150, l150, y150, z150⟩, st150⟩ := X142.virtualBack hx (y := (⟨"com/example/halyard/halyard/messages/SubscriptionAcknowledgement", "equals", "(Ljava/lang/Object;)Z"⟩ : MethodName)) (z := (⟨"com/example/halyard/halyard/messages/SubscriptionAcknowledgement", "equals", "(Ljava/lang/Object;)Z"⟩ : MethodName)) hown (mvT hZ (hw _ (List.mem_of_getElem? (i := 13) rfl))) (mvT hZ (hw _ (List.mem_of_getElem? (i := 14) rfl))) (notFace_of_selects (args := #[]) (mvT hZ (hw _ (List.mem_of_getElem? (i := 16) rfl)))) (mvT hZ (hw _ (List.mem_of_getElem? (i := 16) rfl))) (mvT hZ (hw _ (List.mem_of_getElem? (i := 15) rfl))) (by decide) (backOf (W := 0) (rmEs l Z a0 hw [] b124 b78 v32 v48 q0 q1 T129.heap n0 f143 f147 Fa129 Fb129 f145 f146) hZ (hw _ (List.mem_of_getElem? (i := 17) rfl)) (hw _ (List.mem_of_getElem? (i := 2) rfl)) (by decide) (by decide)) q150a q150c (g := (mkF m 158 #[.val (.long q0), .second, .val (.long q1), .second, .val (.long q2), .second, .val (.long q3), .second, .val (.int p4), .val (.ref b78), .val (.int (p4 &&& (7 : Int32))), .val (.long v32), .second, .val (.long v48), .second, .val (.ref b124), .val (.int (own_b (v32 = q0 ∧ v48 = q1)))] [(.ref b78), (.ref b124)])) rfl (by rw [hml]; rfl) (Steps.refl _) (argsL := [(.ref b78)]) (rest := []) (lenOf pd_3 rfl) rfl (by show 2 * 0 + _ ≤ _; exact Nat.le_of_eq rfl) (hb hby at_158) (fun _ _ => ⟨rfl, e142, (by decide : 2 + 0 ≤ _), (by decide : 4 + 0 ≤ _)⟩)
        dsimp only [Pt.U, Pt.locs, Pt.cells, Pt.slots] at X150 l150 y150 z150 st150 hQ150
        subst l150 y150 z150
        obtain ⟨rfl, N150q, e150⟩ := hQ150
        have N150 := Fr.app N142 N150q
        have G151 : Go p e below A0 (T150.setTop (mkF m 161 #[.val (.long q0), .second, .val (.long q1), .second, .val (.long q2), .second, .val (.long q3), .second, .val (.int p4), .val (.ref b78), .val (.int (p4 &&& (7 : Int32))), .val (.long v32), .second, .val (.long v48), .second, .val (.ref b124), .val (.int (own_b (v32 = q0 ∧ v48 = q1)))] [(.int (own_b (q0 = v32 ∧ q1 = v48)))])) := fun tq kq => G149 tq (st150.trans kq)
        have G152 : Go p e below A0 (T150.setTop (mkF m 163 #[.val (.long q0), .second, .val (.long q1), .second, .val (.long q2), .second, .val (.long q3), .second, .val (.int p4), .val (.ref b78), .val (.int (p4 &&& (7 : Int32))), .val (.long v32), .second, .val (.long v48), .second, .val (.ref b124), .val (.int (own_b (v32 = q0 ∧ v48 = q1)))] [(.int (own_b (v32 = q0 ∧ v48 = q1))), (.int (own_b (q0 = v32 ∧ q1 = v48)))])) := fun tq kq => G151 tq (by
          refine XS.iload X150.here hx rfl (hb hby at_161) rfl ?_
          show Steps p.tables e below (T150.setTop (mkF m 163 #[.val (.long q0), .second, .val (.long q1), .second, .val (.long q2), .second, .val (.long q3), .second, .val (.int p4), .val (.ref b78), .val (.int (p4 &&& (7 : Int32))), .val (.long v32), .second, .val (.long v48), .second, .val (.ref b124), .val (.int (own_b (v32 = q0 ∧ v48 = q1)))] [(.int (own_b (v32 = q0 ∧ v48 = q1))), (.int (own_b (q0 = v32 ∧ q1 = v48)))])) _
          exact kq)
        have hfin : (own_b (q0 = v32 ∧ q1 = v48)) = (own_b (v32 = q0 ∧ v48 = q1)) := own_beq ⟨fun q => ⟨q.1.symm, q.2.symm⟩, fun q => ⟨q.1.symm, q.2.symm⟩⟩
        have G153 : Go p e below A0 (T150.setTop (mkF m 171 #[.val (.long q0), .second, .val (.long q1), .second, .val (.long q2), .second, .val (.long q3), .second, .val (.int p4), .val (.ref b78), .val (.int (p4 &&& (7 : Int32))), .val (.long v32), .second, .val (.long v48), .second, .val (.ref b124), .val (.int (own_b (v32 = q0 ∧ v48 = q1)))] [(.int (1 : Int32))])) := fun tq kq => G152 tq (by
          refine XS.icmpNo X150.here hx rfl (hb hby at_163) rfl (teq hfin).2 ?_
          show Steps p.tables e below (T150.setTop (mkF m 166 #[.val (.long q0), .second, .val (.long q1), .second, .val (.long q2), .second, .val (.long q3), .second, .val (.int p4), .val (.ref b78), .val (.int (p4 &&& (7 : Int32))), .val (.long v32), .second, .val (.long v48), .second, .val (.ref b124), .val (.int (own_b (v32 = q0 ∧ v48 = q1)))] [])) _
          refine XS.iconst X150.here hx rfl (hb hby at_166) ?_
          show Steps p.tables e below (T150.setTop (mkF m 167 #[.val (.long q0), .second, .val (.long q1), .second, .val (.long q2), .second, .val (.long q3), .second, .val (.int p4), .val (.ref b78), .val (.int (p4 &&& (7 : Int32))), .val (.long v32), .second, .val (.long v48), .second, .val (.ref b124), .val (.int (own_b (v32 = q0 ∧ v48 = q1)))] [(.int (1 : Int32))])) _
          refine XS.goto X150.here hx rfl (pc0 := 167) (pc' := 171) rfl (hb hby at_167) (by decide) (by decide) ?_
          show Steps p.tables e below (T150.setTop (mkF m 171 #[.val (.long q0), .second, .val (.long q1), .second, .val (.long q2), .second, .val (.long q3), .second, .val (.int p4), .val (.ref b78), .val (.int (p4 &&& (7 : Int32))), .val (.long v32), .second, .val (.long v48), .second, .val (.ref b124), .val (.int (own_b (v32 = q0 ∧ v48 = q1)))] [(.int (1 : Int32))])) _
          exact kq)
        obtain ⟨fs, hr, hrun, hended, hW, hsame⟩ := X150.leave (v := some (.int (nar .boolean (1 : Int32)))) (fun h => by rw [Bd.returns] at h; cases h)
        refine ⟨_, _, (by rw [← hA0]; exact G153 _ (retN X150 hx (t := .boolean) Bd.returns (by simp) (hb hby at_171) hr)), hrun, hended, _, _, rfl, ?_, ⟨_, rfl⟩, hW, hsame.mono (by decide) (by decide)⟩
        exact ⟨rfl, N150⟩
theorem own_eqI {args : Array Value} {s : State} {t : Term} {k : Int32} (h : (Jvm.Cond.eq t (.int k)).value args s none s [] = some true) : t.eval args s none [] s = some (.int k) := by
  simp only [Cond.value, Term.eval] at h
  cases ht : t.eval args s none [] s with
  | none => simp [ht] at h
  | some x => cases x <;> simp [ht] at h ⊢; exact h
theorem own_eqR {args : Array Value} {s : State} {t u : Term} {b : Addr} (h : (Jvm.Cond.eq t u).value args s none s [] = some true) (hu : u.eval args s none [] s = some (.ref b)) : t.eval args s none [] s = some (.ref b) := by
  simp only [Cond.value, hu] at h
  cases ht : t.eval args s none [] s with
  | none => simp [ht] at h
  | some x => cases x <;> simp [ht] at h ⊢; exact h
theorem own_arv {args : Array Value} {s : State} {t : Term} {a : Addr} {cl : Cell} {ty : FieldType} {z : Int32} (A : Arr s s.heap a cl ty) (ht : t.eval args s none [] s = some (.ref a)) (hl : (Term.length t).eval args s none [] s = some (.int z)) : cl.slots.size < 2 ^ 31 ∧ cl.slots.size.toInt32 = z := by
  obtain ⟨b, cell, e1, e2, h31, e3⟩ := Jvm.Lib.length_spec hl
  cases ht.symm.trans e1
  have e4 := A.fin (Vm.Alike.refl _)
  cases e4.symm.trans e2
  exact ⟨h31, (Value.int.inj e3).symm⟩
theorem own_size {n k : Nat} {z : Int32} (h : n < 2 ^ 31) (e : n.toInt32 = z) (hz : z.toInt = (k : Int)) : n = k := by
  have q := len_toInt h
  rw [e, hz] at q
  exact (Int.ofNat.inj q).symm
theorem own_all {args : Array Value} {s : State} {C n d K : String} {a : Addr} {cl : Cell} {ty : FieldType} {c2 : Jvm.Cond} (A : Arr s s.heap a cl ty) (ev : (Term.static C n d).eval args s none [] s = some (.ref a))
    (h : (Jvm.Cond.all (.static C n d) (.and (.exactly (.elem (.static C n d) (.index 0)) K) c2)).value args s none s [] = some true) {j : Int32} (hj : ¬ (j < 0 ∨ cl.slots.size ≤ j.toNatClampNeg)) : ∃ r, cl.slots[j.toNatClampNeg]? = some (.ref r) ∧ Exa s s.heap r K := by
  have q := Cond.all_elim ev (A.fin (Vm.Alike.refl _)) h j.toNatClampNeg (Nat.lt_of_not_le fun y => hj (Or.inr y))
  obtain ⟨q1, -⟩ := and_e q
  obtain ⟨r, er⟩ := exa_v q1
  have ev' : (Term.static C n d).eval args s none [j.toNatClampNeg] s = some (.ref a) := by simpa only [Term.eval] using ev
  exact ⟨r, (elem_in er ev' (idx_at fun y => hj (Or.inl y)) A.1).2, exa_at er q1⟩
set_option maxRecDepth 65536 in
set_option maxHeartbeats 40000000 in
theorem comes_1 {Post : Tables → Env → Array Value → State → Outcome → State → Prop} (hpost : ∀ tb e args s v u, (limb_1_1.after args s (.returned v) u = true ∧ limb_1_2.after args s (.returned v) u = true ∧ True) → FrameEnd s (.returned v) u (Jvm.fieldLocs frame_1_writes args s ++ Jvm.arrayLocs frame_1_arrays args s ++ Jvm.staticLocs frame_1_statics s) 16 128 → Post tb e args s (.returned v) u) :
    ArmFor flags0 classFile x code maxLocals ret World_1 tables_1 room_1 Calls_1 rest_1 Pre_1 Post := by
  intro l hfl _ _ p e ha hc hk s m args below hf hA hF happ hP
  obtain ⟨hcalls, hrest, hpre⟩ := hP
  obtain ⟨-, -, -, hnamed, -, -, -, hat⟩ := (Spec.applies_iff hf).mp happ
  obtain ⟨hg, hn⟩ := and_e (Cond.before_iff.mp (show (Jvm.Cond.and given_1 narrow_1).before args s = true from hpre))
  obtain ⟨g1, g2⟩ := and_e hg
  obtain ⟨g3, g4⟩ := and_e g2
  obtain ⟨g5, g6⟩ := and_e g4
  obtain ⟨g7, g8⟩ := and_e g6
  obtain ⟨g9, g10⟩ := and_e g8
  obtain ⟨w0, w1, w2, w3, w4, rfl⟩ : ∃ w0 w1 w2 w3 w4 : Value, args = #[w0, w1, w2, w3, w4] := by
    have hs : args.size = 5 := by simpa [Cond.value, given_1] using g1
    obtain ⟨L⟩ := args
    match L, hs with
    | [w0, w1, w2, w3, w4], _ => exact ⟨w0, w1, w2, w3, w4, rfl⟩
  have hw := fun d (hd : d ∈ tables_1) => atoms_spec (ws := Jvm.Cond.code x code maxLocals ret :: tables_1) hat d (List.mem_cons_of_mem _ hd)
  have hfit : Fit s := fun {y c} hc i hi => by
    obtain ⟨ha, rfl⟩ := Array.getElem?_eq_some_iff.mp hc
    have q := List.all_eq_true.mp ((Array.all_eq_true_iff_forall_mem.mp hF) _ (Array.getElem_mem ha)) i (List.mem_range.mpr hi)
    simpa [Array.getElem?_eq_getElem hi] using q
  obtain ⟨hsets, hown0⟩ := atoms_of _ (rest_1_c_eq ▸ (show rest_1_c.before _ s = true from hrest))
  have hr0 := Cond.before_iff.mp hown0
  obtain ⟨i0, ei0⟩ := isL_v g3
  obtain rfl : w0 = (.long i0) := Option.some.inj ei0
  obtain ⟨i1, ei1⟩ := isL_v g5
  obtain rfl : w1 = (.long i1) := Option.some.inj ei1
  obtain ⟨i2, ei2⟩ := isL_v g7
  obtain rfl : w2 = (.long i2) := Option.some.inj ei2
  obtain ⟨i3, ei3⟩ := isL_v g9
  obtain rfl : w3 = (.long i3) := Option.some.inj ei3
  obtain ⟨i4, ei4⟩ := is_v g10
  obtain rfl : w4 = (.int i4) := Option.some.inj ei4
  have hs2 := Cond.before_iff.mp (hsets _ (List.mem_of_getElem? (i := 2) rfl))
  obtain ⟨ca, eca⟩ := arr_v hs2
  obtain ⟨cl, Ar⟩ := Arr.start eca hs2
  have hsS : Sta s s.heap "java/lang/Long$LongCache" "cache" "[Ljava/lang/Long;" (.ref ca) := Sta.start eca (Or.inr ⟨(hw _ (List.mem_of_getElem? (i := 45) rfl)), (hsets _ (List.mem_of_getElem? (i := 0) rfl))⟩)
  have hl := own_arv Ar eca (own_eqI (Cond.before_iff.mp (hsets _ (List.mem_of_getElem? (i := 4) rfl))))
  have hall := Cond.before_iff.mp (hsets _ (List.mem_of_getElem? (i := 5) rfl))
  have hca : Cache s s.heap ca cl := ⟨hsS, Ar, own_size hl.1 hl.2 (by decide), fun j hj => own_all Ar eca hall hj⟩
  obtain ⟨n, o, h1, h2, h3, _, L, rfl, ⟨rfl, N⟩, hq⟩ := rm0 l s _ hw tables_1 i0 i1 i2 i3 i4 ca cl s.heap s.heap.size (Nat.le_refl _) (Old.start s) hca p e ha hc hk s m _ below hf ((Spec.applies_iff_loose hf).mp happ).1 ⟨rfl, State.Warmed39.refl s, rfl⟩ trivial
  refine ⟨n, _, h1, h2, h3, hpost _ _ _ _ _ _ ⟨Cond.after_iff.mpr rfl, Cond.after_iff.mpr (eq_i res_at (Term.int_eval (1)) rfl), trivial⟩ ⟨hq.1, hq.2.1, (hq.2.2.sift fun y hy => Or.inr (N y hy)).mono (by decide) (by decide)⟩⟩
theorem main_1_1 : Claimed_1_1 := comes_1 fun _ _ _ _ _ _ h hF => ⟨h.1, hF⟩
theorem main_1_2 : Claimed_1_2 := comes_1 fun _ _ _ _ _ _ h hF => ⟨h.2.1, hF⟩
end Jvm.Pilot.@@N@@
namespace Jvm.Pilot.@@N@@
open Jvm Jvm.ClassFile Sem Op Lib Jvm.Free Jvm.Stand Jvm.Pilot.@@N@@.Jvm.D
/-! MADE BY PROGRAM (witnessworld.py) out of the Statement's table words and the real class files: 16 classes; the members and pool entries that the words name. The judged class is class 1, her method 1. -/
namespace start1
open Jvm.ClassFile
def u (s : String) : CpInfo := .utf8 (stringToUtf16 s)
/-- a pool by its gaps: so many unusable entries, then the entry; so many at the end -/
def gap : Nat → List CpInfo → List CpInfo
  | 0, r => r
  | n + 1, r => .unusable :: gap n r
def poolList (es : List (Nat × CpInfo)) (last : Nat) : List CpInfo := es.foldr (fun e r => gap e.1 (e.2 :: r)) (gap last [])
def pool (es : List (Nat × CpInfo)) (last : Nat) : Array CpInfo := ⟨poolList es last⟩
def fileOf (pool : Array CpInfo) (this : Nat) (attrs : Array Attribute := #[]) (ms : Array MethodInfo := #[]) (fl : Nat := 33) (sup : Nat := 0) (ifs : Array Nat := #[]) (fds : Array FieldInfo := #[]) : ClassFile where
  minorVersion := 0
  majorVersion := 65
  constantPool := pool
  accessFlags := fl
  thisClass := this
  superClass := sup
  interfaces := ifs
  fields := fds
  methods := ms
  attributes := attrs
def plain (name : String) (sup : Option ClassId) : Class where
  name := name
  kind := .ordinary
  loader := none
  accessFlags := 33
  super := sup
  interfaces := #[]
  cf := none
  fields := #[]
  methods := #[]
  instanceTypes := #[]
  staticTypes := #[]
  resolved := #[]
  callSites := []
  init := .initialized
  statics := none
  mirror := none

def pool0 : Array CpInfo := pool [(5, u "<init>"), (0, u "()V"), (1, .class_ 10), (1, u "java/lang/Object")] 113

def k0c0 : Code := { maxStack := 0, maxLocals := 1, code := object_method_1_code, exceptionTable := #[], attributes := #[] }
def k0m0 : Method := { name := "<init>", desc := "()V", sig := { parameters := [], returnType := none }, accessFlags := 1, code := some k0c0 }
/-- java/lang/Object -/
def k0 : Class := { plain "java/lang/Object" none with
  accessFlags := 33
  interfaces := #[]
  cf := some (fileOf pool0 8 #[] #[{ accessFlags := 1, nameIndex := 5, descriptorIndex := 6, attributes := #[] }] 33 0 #[] #[])
  fields := #[]
  methods := #[k0m0]
  instanceTypes := #[]
  staticTypes := #[]
  resolved := Array.replicate 124 none
  statics := none }

def pool1 : Array CpInfo := pool [(2, .class_ 4), (1, u "java/lang/Object"), (0, u "<init>"), (0, u "()V"), (0, .class_ 8), (0, u "com/example/halyard/halyard/messages/SubscriptionAcknowledgement"), (0, .methodref 7 10), (0, .nameAndType 5 11), (0, u "(JJ)V"), (0, .methodref 7 13), (0, .nameAndType 14 15), (0, u "equals"), (0, u "(Ljava/lang/Object;)Z"), (0, .methodref 17 18), (0, .class_ 19), (0, .nameAndType 20 21), (0, u "java/lang/Long"), (0, u "valueOf"), (0, u "(J)Ljava/lang/Long;"), (0, .class_ 23), (0, u "com/example/halyard/halyard/messages/SubscriptionAcknowledgementEqualsPinLaw"), (2, u "law"), (0, u "(JJJJI)Z")] 3

def k1m0 : Method := { name := "<init>", desc := "()V", sig := { parameters := [], returnType := none }, accessFlags := 1, code := none }
def k1c1 : Code := { maxStack := 6, maxLocals := 17, code := code, exceptionTable := #[], attributes := #[] }
def k1m1 : Method := { name := "law", desc := "(JJJJI)Z", sig := { parameters := [.long, .long, .long, .long, .int], returnType := some .boolean }, accessFlags := 9, code := some k1c1 }
/-- com/example/halyard/halyard/messages/SubscriptionAcknowledgementEqualsPinLaw -/
def k1 : Class := { plain "com/example/halyard/halyard/messages/SubscriptionAcknowledgementEqualsPinLaw" (some 0) with
  accessFlags := 49
  interfaces := #[]
  cf := some (fileOf pool1 22 #[] #[{ accessFlags := 1, nameIndex := 5, descriptorIndex := 6, attributes := #[] }, { accessFlags := 9, nameIndex := 26, descriptorIndex := 27, attributes := #[] }] 49 2 #[] #[])
  fields := #[]
  methods := #[k1m0, k1m1]
  instanceTypes := #[]
  staticTypes := #[]
  resolved := Array.replicate 31 none
  statics := none }

def pool2 : Array CpInfo := pool [(1, .methodref 2 3), (0, .class_ 4), (0, .nameAndType 5 6), (0, u "java/lang/Object"), (0, u "<init>"), (0, u "()V"), (0, .fieldref 8 9), (0, .class_ 10), (0, .nameAndType 11 12), (0, u "com/example/halyard/halyard/messages/SubscriptionAcknowledgement"), (0, u "subscriptionId"), (0, u "J"), (0, .fieldref 8 14), (0, .nameAndType 15 12), (0, u "sequenceNumber"), (8, u "(JJ)V"), (30, u "equals"), (0, u "(Ljava/lang/Object;)Z")] 22

def k2c0 : Code := { maxStack := 3, maxLocals := 5, code := prog_92_method_1_code, exceptionTable := #[], attributes := #[] }
def k2m0 : Method := { name := "<init>", desc := "(JJ)V", sig := { parameters := [.long, .long], returnType := none }, accessFlags := 1, code := some k2c0 }
def k2c1 : Code := { maxStack := 4, maxLocals := 3, code := prog_92_method_6_code, exceptionTable := #[], attributes := #[] }
def k2m1 : Method := { name := "equals", desc := "(Ljava/lang/Object;)Z", sig := { parameters := [(.object "java/lang/Object")], returnType := some .boolean }, accessFlags := 1, code := some k2c1 }
/-- com/example/halyard/halyard/messages/SubscriptionAcknowledgement -/
def k2 : Class := { plain "com/example/halyard/halyard/messages/SubscriptionAcknowledgement" (some 0) with
  accessFlags := 49
  interfaces := #[]
  cf := some (fileOf pool2 8 #[] #[{ accessFlags := 1, nameIndex := 5, descriptorIndex := 24, attributes := #[] }, { accessFlags := 1, nameIndex := 55, descriptorIndex := 56, attributes := #[] }] 49 2 #[] #[{ accessFlags := 18, nameIndex := 11, descriptorIndex := 12, attributes := #[] }, { accessFlags := 18, nameIndex := 15, descriptorIndex := 12, attributes := #[] }])
  fields := #[{ name := "subscriptionId", type := .long, accessFlags := 18, slot := 0, constantValue := 0 }, { name := "sequenceNumber", type := .long, accessFlags := 18, slot := 1, constantValue := 0 }]
  methods := #[k2m0, k2m1]
  instanceTypes := #[.long, .long]
  staticTypes := #[]
  resolved := Array.replicate 79 none
  statics := none }

def pool3 : Array CpInfo := pool [(1, .class_ 2), (0, u "java/io/Serializable"), (0, .class_ 4), (0, u "java/lang/Object")] 2

/-- java/io/Serializable -/
def k3 : Class := { plain "java/io/Serializable" (some 0) with
  accessFlags := 1537
  interfaces := #[]
  cf := some (fileOf pool3 1 #[] #[] 1537 3 #[] #[])
  fields := #[]
  methods := #[]
  instanceTypes := #[]
  staticTypes := #[]
  resolved := Array.replicate 7 none
  statics := none }

def pool4 : Array CpInfo := pool [(1, .methodref 2 3), (0, .class_ 4), (0, .nameAndType 5 6), (0, u "java/lang/Object"), (0, u "<init>"), (0, u "()V"), (1, .class_ 10), (1, u "java/lang/Number"), (2, .class_ 14), (0, u "java/io/Serializable"), (0, u "serialVersionUID"), (0, u "J")] 20

def k4c0 : Code := { maxStack := 1, maxLocals := 1, code := jdk_18_method_1_code, exceptionTable := #[], attributes := #[] }
def k4m0 : Method := { name := "<init>", desc := "()V", sig := { parameters := [], returnType := none }, accessFlags := 1, code := some k4c0 }
/-- java/lang/Number -/
def k4 : Class := { plain "java/lang/Number" (some 0) with
  accessFlags := 1057
  interfaces := #[3]
  cf := some (fileOf pool4 8 #[] #[{ accessFlags := 1, nameIndex := 5, descriptorIndex := 6, attributes := #[] }] 1057 2 #[13] #[{ accessFlags := 26, nameIndex := 15, descriptorIndex := 16, attributes := #[] }])
  fields := #[{ name := "serialVersionUID", type := .long, accessFlags := 26, slot := 0, constantValue := 0 }]
  methods := #[k4m0]
  instanceTypes := #[]
  staticTypes := #[.long]
  resolved := Array.replicate 37 none
  statics := none }

def pool5 : Array CpInfo := pool [(1, .class_ 2), (0, u "java/lang/Comparable"), (0, .class_ 4), (0, u "java/lang/Object")] 7

/-- java/lang/Comparable -/
def k5 : Class := { plain "java/lang/Comparable" (some 0) with
  accessFlags := 1537
  interfaces := #[]
  cf := some (fileOf pool5 1 #[] #[] 1537 3 #[] #[])
  fields := #[]
  methods := #[]
  instanceTypes := #[]
  staticTypes := #[]
  resolved := Array.replicate 12 none
  statics := none }

def pool6 : Array CpInfo := pool [(1, .class_ 2), (0, u "java/lang/constant/Constable"), (0, .class_ 4), (0, u "java/lang/Object")] 6

/-- java/lang/constant/Constable -/
def k6 : Class := { plain "java/lang/constant/Constable" (some 0) with
  accessFlags := 1537
  interfaces := #[]
  cf := some (fileOf pool6 1 #[] #[] 1537 3 #[] #[])
  fields := #[]
  methods := #[]
  instanceTypes := #[]
  staticTypes := #[]
  resolved := Array.replicate 11 none
  statics := none }

def pool7 : Array CpInfo := pool [(1, .class_ 2), (0, u "java/lang/constant/ConstantDesc"), (0, .class_ 4), (0, u "java/lang/Object")] 32

/-- java/lang/constant/ConstantDesc -/
def k7 : Class := { plain "java/lang/constant/ConstantDesc" (some 0) with
  accessFlags := 1537
  interfaces := #[]
  cf := some (fileOf pool7 1 #[] #[] 1537 3 #[] #[])
  fields := #[]
  methods := #[]
  instanceTypes := #[]
  staticTypes := #[]
  resolved := Array.replicate 37 none
  statics := none }

def pool8 : Array CpInfo := pool [(1, .class_ 2), (0, u "java/lang/Long"), (55, .nameAndType 59 60), (0, u "<init>"), (0, u "()V"), (24, u "valueOf"), (143, u "(J)Ljava/lang/Long;"), (0, .long 18446744073709551488), (1, .long 127), (1, .fieldref 235 236), (0, .class_ 237), (0, .nameAndType 238 239), (0, u "java/lang/Long$LongCache"), (0, u "cache"), (0, u "[Ljava/lang/Long;"), (0, .methodref 1 241), (0, .nameAndType 59 242), (0, u "(J)V"), (27, .methodref 271 58), (0, .class_ 272), (0, u "java/lang/Number"), (0, .fieldref 1 274), (0, .nameAndType 275 276), (0, u "value"), (0, u "J"), (84, u "TYPE"), (0, u "Ljava/lang/Class;"), (0, .class_ 364), (0, u "java/lang/Comparable"), (0, .class_ 366), (0, u "java/lang/constant/Constable"), (0, .class_ 368), (0, u "java/lang/constant/ConstantDesc"), (0, u "MIN_VALUE"), (1, u "MAX_VALUE"), (4, u "SIZE"), (0, u "I"), (1, u "BYTES"), (1, u "serialVersionUID")] 142

def k8c0 : Code := { maxStack := 4, maxLocals := 3, code := jdk_35_method_24_code, exceptionTable := #[], attributes := #[] }
def k8m0 : Method := { name := "valueOf", desc := "(J)Ljava/lang/Long;", sig := { parameters := [.long], returnType := some (.object "java/lang/Long") }, accessFlags := 9, code := some k8c0 }
def k8c1 : Code := { maxStack := 3, maxLocals := 3, code := jdk_35_method_26_code, exceptionTable := #[], attributes := #[] }
def k8m1 : Method := { name := "<init>", desc := "(J)V", sig := { parameters := [.long], returnType := none }, accessFlags := 1, code := some k8c1 }
/-- java/lang/Long -/
def k8 : Class := { plain "java/lang/Long" (some 4) with
  accessFlags := 49
  interfaces := #[5, 6, 7]
  cf := some (fileOf pool8 1 #[.nestMembers #[235]] #[{ accessFlags := 9, nameIndex := 85, descriptorIndex := 229, attributes := #[] }, { accessFlags := 1, nameIndex := 59, descriptorIndex := 242, attributes := #[] }] 49 271 #[363, 365, 367] #[{ accessFlags := 25, nameIndex := 369, descriptorIndex := 276, attributes := #[] }, { accessFlags := 25, nameIndex := 371, descriptorIndex := 276, attributes := #[] }, { accessFlags := 25, nameIndex := 361, descriptorIndex := 362, attributes := #[] }, { accessFlags := 18, nameIndex := 275, descriptorIndex := 276, attributes := #[] }, { accessFlags := 25, nameIndex := 376, descriptorIndex := 377, attributes := #[] }, { accessFlags := 25, nameIndex := 379, descriptorIndex := 377, attributes := #[] }, { accessFlags := 26, nameIndex := 381, descriptorIndex := 276, attributes := #[] }])
  fields := #[{ name := "MIN_VALUE", type := .long, accessFlags := 25, slot := 0, constantValue := 0 }, { name := "MAX_VALUE", type := .long, accessFlags := 25, slot := 1, constantValue := 0 }, { name := "TYPE", type := (.object "java/lang/Class"), accessFlags := 25, slot := 2, constantValue := 0 }, { name := "value", type := .long, accessFlags := 18, slot := 0, constantValue := 0 }, { name := "SIZE", type := .int, accessFlags := 25, slot := 3, constantValue := 0 }, { name := "BYTES", type := .int, accessFlags := 25, slot := 4, constantValue := 0 }, { name := "serialVersionUID", type := .long, accessFlags := 26, slot := 5, constantValue := 0 }]
  methods := #[k8m0, k8m1]
  instanceTypes := #[.long]
  staticTypes := #[.long, .long, (.object "java/lang/Class"), .int, .int, .long]
  resolved := Array.replicate 524 none
  statics := none }

def pool9 : Array CpInfo := pool [(2, .class_ 4), (1, u "java/lang/Object"), (0, u "<init>"), (0, u "()V"), (0, .class_ 8), (0, u "java/lang/Long"), (7, .class_ 18), (1, u "java/lang/Long$LongCache"), (0, u "$assertionsDisabled"), (0, u "Z"), (8, u "archivedCache"), (0, u "[Ljava/lang/Long;"), (7, u "cache")] 24

def k9m0 : Method := { name := "<init>", desc := "()V", sig := { parameters := [], returnType := none }, accessFlags := 2, code := none }
/-- java/lang/Long$LongCache -/
def k9 : Class := { plain "java/lang/Long$LongCache" (some 0) with
  accessFlags := 48
  interfaces := #[]
  cf := some (fileOf pool9 16 #[.nestHost 7] #[{ accessFlags := 2, nameIndex := 5, descriptorIndex := 6, attributes := #[] }] 48 2 #[] #[{ accessFlags := 24, nameIndex := 38, descriptorIndex := 30, attributes := #[] }, { accessFlags := 8, nameIndex := 29, descriptorIndex := 30, attributes := #[] }, { accessFlags := 4120, nameIndex := 19, descriptorIndex := 20, attributes := #[] }])
  fields := #[{ name := "cache", type := (.array (.object "java/lang/Long")), accessFlags := 24, slot := 0, constantValue := 0 }, { name := "archivedCache", type := (.array (.object "java/lang/Long")), accessFlags := 8, slot := 1, constantValue := 0 }, { name := "$assertionsDisabled", type := .boolean, accessFlags := 4120, slot := 2, constantValue := 0 }]
  methods := #[k9m0]
  instanceTypes := #[]
  staticTypes := #[(.array (.object "java/lang/Long")), (.array (.object "java/lang/Long")), .boolean]
  resolved := Array.replicate 63 none
  statics := some 0 }

def pool10 : Array CpInfo := pool [(1, u "java/lang/Cloneable"), (0, .class_ 1), (0, u "java/lang/Object"), (0, .class_ 3)] 3

/-- java/lang/Cloneable -/
def k10 : Class := { plain "java/lang/Cloneable" (some 0) with
  accessFlags := 1537
  interfaces := #[]
  cf := some (fileOf pool10 2 #[] #[] 1537 4 #[] #[])
  fields := #[]
  methods := #[]
  instanceTypes := #[]
  staticTypes := #[]
  resolved := Array.replicate 8 none
  statics := none }

/-- the primitive byte -/
def k11 : Class := { plain "byte" none with kind := .primitive 'B', accessFlags := 0x411 }
/-- [B -/
def k12 : Class := { plain "[B" (some 0) with kind := .array 11 .byte, interfaces := #[10, 3], accessFlags := 1041 }

/-- the primitive int -/
def k13 : Class := { plain "int" none with kind := .primitive 'I', accessFlags := 0x411 }
/-- [I -/
def k14 : Class := { plain "[I" (some 0) with kind := .array 13 .int, interfaces := #[10, 3], accessFlags := 1041 }

/-- [Ljava/lang/Long; -/
def k15 : Class := { plain "[Ljava/lang/Long;" (some 0) with kind := .array 8 (.object "java/lang/Long"), interfaces := #[10, 3], accessFlags := 1041 }

def heap : Heap := #[{ cls := 9, slots := #[.ref 1, .null, .int 0], vm := .statics 9 },
  { cls := 15, slots := #[.ref 2, .ref 3, .ref 4, .ref 5, .ref 6, .ref 7, .ref 8, .ref 9, .ref 10, .ref 11, .ref 12, .ref 13, .ref 14, .ref 15, .ref 16, .ref 17, .ref 18, .ref 19, .ref 20, .ref 21, .ref 22, .ref 23, .ref 24, .ref 25, .ref 26, .ref 27, .ref 28, .ref 29, .ref 30, .ref 31, .ref 32, .ref 33, .ref 34, .ref 35, .ref 36, .ref 37, .ref 38, .ref 39, .ref 40, .ref 41, .ref 42, .ref 43, .ref 44, .ref 45, .ref 46, .ref 47, .ref 48, .ref 49, .ref 50, .ref 51, .ref 52, .ref 53, .ref 54, .ref 55, .ref 56, .ref 57, .ref 58, .ref 59, .ref 60, .ref 61, .ref 62, .ref 63, .ref 64, .ref 65, .ref 66, .ref 67, .ref 68, .ref 69, .ref 70, .ref 71, .ref 72, .ref 73, .ref 74, .ref 75, .ref 76, .ref 77, .ref 78, .ref 79, .ref 80, .ref 81, .ref 82, .ref 83, .ref 84, .ref 85, .ref 86, .ref 87, .ref 88, .ref 89, .ref 90, .ref 91, .ref 92, .ref 93, .ref 94, .ref 95, .ref 96, .ref 97, .ref 98, .ref 99, .ref 100, .ref 101, .ref 102, .ref 103, .ref 104, .ref 105, .ref 106, .ref 107, .ref 108, .ref 109, .ref 110, .ref 111, .ref 112, .ref 113, .ref 114, .ref 115, .ref 116, .ref 117, .ref 118, .ref 119, .ref 120, .ref 121, .ref 122, .ref 123, .ref 124, .ref 125, .ref 126, .ref 127, .ref 128, .ref 129, .ref 130, .ref 131, .ref 132, .ref 133, .ref 134, .ref 135, .ref 136, .ref 137, .ref 138, .ref 139, .ref 140, .ref 141, .ref 142, .ref 143, .ref 144, .ref 145, .ref 146, .ref 147, .ref 148, .ref 149, .ref 150, .ref 151, .ref 152, .ref 153, .ref 154, .ref 155, .ref 156, .ref 157, .ref 158, .ref 159, .ref 160, .ref 161, .ref 162, .ref 163, .ref 164, .ref 165, .ref 166, .ref 167, .ref 168, .ref 169, .ref 170, .ref 171, .ref 172, .ref 173, .ref 174, .ref 175, .ref 176, .ref 177, .ref 178, .ref 179, .ref 180, .ref 181, .ref 182, .ref 183, .ref 184, .ref 185, .ref 186, .ref 187, .ref 188, .ref 189, .ref 190, .ref 191, .ref 192, .ref 193, .ref 194, .ref 195, .ref 196, .ref 197, .ref 198, .ref 199, .ref 200, .ref 201, .ref 202, .ref 203, .ref 204, .ref 205, .ref 206, .ref 207, .ref 208, .ref 209, .ref 210, .ref 211, .ref 212, .ref 213, .ref 214, .ref 215, .ref 216, .ref 217, .ref 218, .ref 219, .ref 220, .ref 221, .ref 222, .ref 223, .ref 224, .ref 225, .ref 226, .ref 227, .ref 228, .ref 229, .ref 230, .ref 231, .ref 232, .ref 233, .ref 234, .ref 235, .ref 236, .ref 237, .ref 238, .ref 239, .ref 240, .ref 241, .ref 242, .ref 243, .ref 244, .ref 245, .ref 246, .ref 247, .ref 248, .ref 249, .ref 250, .ref 251, .ref 252, .ref 253, .ref 254, .ref 255, .ref 256, .ref 257], vm := .none },
  { cls := 8, slots := #[.long (-128)], vm := .none },
  { cls := 8, slots := #[.long (-127)], vm := .none },
  { cls := 8, slots := #[.long (-126)], vm := .none },
  { cls := 8, slots := #[.long (-125)], vm := .none },
  { cls := 8, slots := #[.long (-124)], vm := .none },
  { cls := 8, slots := #[.long (-123)], vm := .none },
  { cls := 8, slots := #[.long (-122)], vm := .none },
  { cls := 8, slots := #[.long (-121)], vm := .none },
  { cls := 8, slots := #[.long (-120)], vm := .none },
  { cls := 8, slots := #[.long (-119)], vm := .none },
  { cls := 8, slots := #[.long (-118)], vm := .none },
  { cls := 8, slots := #[.long (-117)], vm := .none },
  { cls := 8, slots := #[.long (-116)], vm := .none },
  { cls := 8, slots := #[.long (-115)], vm := .none },
  { cls := 8, slots := #[.long (-114)], vm := .none },
  { cls := 8, slots := #[.long (-113)], vm := .none },
  { cls := 8, slots := #[.long (-112)], vm := .none },
  { cls := 8, slots := #[.long (-111)], vm := .none },
  { cls := 8, slots := #[.long (-110)], vm := .none },
  { cls := 8, slots := #[.long (-109)], vm := .none },
  { cls := 8, slots := #[.long (-108)], vm := .none },
  { cls := 8, slots := #[.long (-107)], vm := .none },
  { cls := 8, slots := #[.long (-106)], vm := .none },
  { cls := 8, slots := #[.long (-105)], vm := .none },
  { cls := 8, slots := #[.long (-104)], vm := .none },
  { cls := 8, slots := #[.long (-103)], vm := .none },
  { cls := 8, slots := #[.long (-102)], vm := .none },
  { cls := 8, slots := #[.long (-101)], vm := .none },
  { cls := 8, slots := #[.long (-100)], vm := .none },
  { cls := 8, slots := #[.long (-99)], vm := .none },
  { cls := 8, slots := #[.long (-98)], vm := .none },
  { cls := 8, slots := #[.long (-97)], vm := .none },
  { cls := 8, slots := #[.long (-96)], vm := .none },
  { cls := 8, slots := #[.long (-95)], vm := .none },
  { cls := 8, slots := #[.long (-94)], vm := .none },
  { cls := 8, slots := #[.long (-93)], vm := .none },
  { cls := 8, slots := #[.long (-92)], vm := .none },
  { cls := 8, slots := #[.long (-91)], vm := .none },
  { cls := 8, slots := #[.long (-90)], vm := .none },
  { cls := 8, slots := #[.long (-89)], vm := .none },
  { cls := 8, slots := #[.long (-88)], vm := .none },
  { cls := 8, slots := #[.long (-87)], vm := .none },
  { cls := 8, slots := #[.long (-86)], vm := .none },
  { cls := 8, slots := #[.long (-85)], vm := .none },
  { cls := 8, slots := #[.long (-84)], vm := .none },
  { cls := 8, slots := #[.long (-83)], vm := .none },
  { cls := 8, slots := #[.long (-82)], vm := .none },
  { cls := 8, slots := #[.long (-81)], vm := .none },
  { cls := 8, slots := #[.long (-80)], vm := .none },
  { cls := 8, slots := #[.long (-79)], vm := .none },
  { cls := 8, slots := #[.long (-78)], vm := .none },
  { cls := 8, slots := #[.long (-77)], vm := .none },
  { cls := 8, slots := #[.long (-76)], vm := .none },
  { cls := 8, slots := #[.long (-75)], vm := .none },
  { cls := 8, slots := #[.long (-74)], vm := .none },
  { cls := 8, slots := #[.long (-73)], vm := .none },
  { cls := 8, slots := #[.long (-72)], vm := .none },
  { cls := 8, slots := #[.long (-71)], vm := .none },
  { cls := 8, slots := #[.long (-70)], vm := .none },
  { cls := 8, slots := #[.long (-69)], vm := .none },
  { cls := 8, slots := #[.long (-68)], vm := .none },
  { cls := 8, slots := #[.long (-67)], vm := .none },
  { cls := 8, slots := #[.long (-66)], vm := .none },
  { cls := 8, slots := #[.long (-65)], vm := .none },
  { cls := 8, slots := #[.long (-64)], vm := .none },
  { cls := 8, slots := #[.long (-63)], vm := .none },
  { cls := 8, slots := #[.long (-62)], vm := .none },
  { cls := 8, slots := #[.long (-61)], vm := .none },
  { cls := 8, slots := #[.long (-60)], vm := .none },
  { cls := 8, slots := #[.long (-59)], vm := .none },
  { cls := 8, slots := #[.long (-58)], vm := .none },
  { cls := 8, slots := #[.long (-57)], vm := .none },
  { cls := 8, slots := #[.long (-56)], vm := .none },
  { cls := 8, slots := #[.long (-55)], vm := .none },
  { cls := 8, slots := #[.long (-54)], vm := .none },
  { cls := 8, slots := #[.long (-53)], vm := .none },
  { cls := 8, slots := #[.long (-52)], vm := .none },
  { cls := 8, slots := #[.long (-51)], vm := .none },
  { cls := 8, slots := #[.long (-50)], vm := .none },
  { cls := 8, slots := #[.long (-49)], vm := .none },
  { cls := 8, slots := #[.long (-48)], vm := .none },
  { cls := 8, slots := #[.long (-47)], vm := .none },
  { cls := 8, slots := #[.long (-46)], vm := .none },
  { cls := 8, slots := #[.long (-45)], vm := .none },
  { cls := 8, slots := #[.long (-44)], vm := .none },
  { cls := 8, slots := #[.long (-43)], vm := .none },
  { cls := 8, slots := #[.long (-42)], vm := .none },
  { cls := 8, slots := #[.long (-41)], vm := .none },
  { cls := 8, slots := #[.long (-40)], vm := .none },
  { cls := 8, slots := #[.long (-39)], vm := .none },
  { cls := 8, slots := #[.long (-38)], vm := .none },
  { cls := 8, slots := #[.long (-37)], vm := .none },
  { cls := 8, slots := #[.long (-36)], vm := .none },
  { cls := 8, slots := #[.long (-35)], vm := .none },
  { cls := 8, slots := #[.long (-34)], vm := .none },
  { cls := 8, slots := #[.long (-33)], vm := .none },
  { cls := 8, slots := #[.long (-32)], vm := .none },
  { cls := 8, slots := #[.long (-31)], vm := .none },
  { cls := 8, slots := #[.long (-30)], vm := .none },
  { cls := 8, slots := #[.long (-29)], vm := .none },
  { cls := 8, slots := #[.long (-28)], vm := .none },
  { cls := 8, slots := #[.long (-27)], vm := .none },
  { cls := 8, slots := #[.long (-26)], vm := .none },
  { cls := 8, slots := #[.long (-25)], vm := .none },
  { cls := 8, slots := #[.long (-24)], vm := .none },
  { cls := 8, slots := #[.long (-23)], vm := .none },
  { cls := 8, slots := #[.long (-22)], vm := .none },
  { cls := 8, slots := #[.long (-21)], vm := .none },
  { cls := 8, slots := #[.long (-20)], vm := .none },
  { cls := 8, slots := #[.long (-19)], vm := .none },
  { cls := 8, slots := #[.long (-18)], vm := .none },
  { cls := 8, slots := #[.long (-17)], vm := .none },
  { cls := 8, slots := #[.long (-16)], vm := .none },
  { cls := 8, slots := #[.long (-15)], vm := .none },
  { cls := 8, slots := #[.long (-14)], vm := .none },
  { cls := 8, slots := #[.long (-13)], vm := .none },
  { cls := 8, slots := #[.long (-12)], vm := .none },
  { cls := 8, slots := #[.long (-11)], vm := .none },
  { cls := 8, slots := #[.long (-10)], vm := .none },
  { cls := 8, slots := #[.long (-9)], vm := .none },
  { cls := 8, slots := #[.long (-8)], vm := .none },
  { cls := 8, slots := #[.long (-7)], vm := .none },
  { cls := 8, slots := #[.long (-6)], vm := .none },
  { cls := 8, slots := #[.long (-5)], vm := .none },
  { cls := 8, slots := #[.long (-4)], vm := .none },
  { cls := 8, slots := #[.long (-3)], vm := .none },
  { cls := 8, slots := #[.long (-2)], vm := .none },
  { cls := 8, slots := #[.long (-1)], vm := .none },
  { cls := 8, slots := #[.long 0], vm := .none },
  { cls := 8, slots := #[.long 1], vm := .none },
  { cls := 8, slots := #[.long 2], vm := .none },
  { cls := 8, slots := #[.long 3], vm := .none },
  { cls := 8, slots := #[.long 4], vm := .none },
  { cls := 8, slots := #[.long 5], vm := .none },
  { cls := 8, slots := #[.long 6], vm := .none },
  { cls := 8, slots := #[.long 7], vm := .none },
  { cls := 8, slots := #[.long 8], vm := .none },
  { cls := 8, slots := #[.long 9], vm := .none },
  { cls := 8, slots := #[.long 10], vm := .none },
  { cls := 8, slots := #[.long 11], vm := .none },
  { cls := 8, slots := #[.long 12], vm := .none },
  { cls := 8, slots := #[.long 13], vm := .none },
  { cls := 8, slots := #[.long 14], vm := .none },
  { cls := 8, slots := #[.long 15], vm := .none },
  { cls := 8, slots := #[.long 16], vm := .none },
  { cls := 8, slots := #[.long 17], vm := .none },
  { cls := 8, slots := #[.long 18], vm := .none },
  { cls := 8, slots := #[.long 19], vm := .none },
  { cls := 8, slots := #[.long 20], vm := .none },
  { cls := 8, slots := #[.long 21], vm := .none },
  { cls := 8, slots := #[.long 22], vm := .none },
  { cls := 8, slots := #[.long 23], vm := .none },
  { cls := 8, slots := #[.long 24], vm := .none },
  { cls := 8, slots := #[.long 25], vm := .none },
  { cls := 8, slots := #[.long 26], vm := .none },
  { cls := 8, slots := #[.long 27], vm := .none },
  { cls := 8, slots := #[.long 28], vm := .none },
  { cls := 8, slots := #[.long 29], vm := .none },
  { cls := 8, slots := #[.long 30], vm := .none },
  { cls := 8, slots := #[.long 31], vm := .none },
  { cls := 8, slots := #[.long 32], vm := .none },
  { cls := 8, slots := #[.long 33], vm := .none },
  { cls := 8, slots := #[.long 34], vm := .none },
  { cls := 8, slots := #[.long 35], vm := .none },
  { cls := 8, slots := #[.long 36], vm := .none },
  { cls := 8, slots := #[.long 37], vm := .none },
  { cls := 8, slots := #[.long 38], vm := .none },
  { cls := 8, slots := #[.long 39], vm := .none },
  { cls := 8, slots := #[.long 40], vm := .none },
  { cls := 8, slots := #[.long 41], vm := .none },
  { cls := 8, slots := #[.long 42], vm := .none },
  { cls := 8, slots := #[.long 43], vm := .none },
  { cls := 8, slots := #[.long 44], vm := .none },
  { cls := 8, slots := #[.long 45], vm := .none },
  { cls := 8, slots := #[.long 46], vm := .none },
  { cls := 8, slots := #[.long 47], vm := .none },
  { cls := 8, slots := #[.long 48], vm := .none },
  { cls := 8, slots := #[.long 49], vm := .none },
  { cls := 8, slots := #[.long 50], vm := .none },
  { cls := 8, slots := #[.long 51], vm := .none },
  { cls := 8, slots := #[.long 52], vm := .none },
  { cls := 8, slots := #[.long 53], vm := .none },
  { cls := 8, slots := #[.long 54], vm := .none },
  { cls := 8, slots := #[.long 55], vm := .none },
  { cls := 8, slots := #[.long 56], vm := .none },
  { cls := 8, slots := #[.long 57], vm := .none },
  { cls := 8, slots := #[.long 58], vm := .none },
  { cls := 8, slots := #[.long 59], vm := .none },
  { cls := 8, slots := #[.long 60], vm := .none },
  { cls := 8, slots := #[.long 61], vm := .none },
  { cls := 8, slots := #[.long 62], vm := .none },
  { cls := 8, slots := #[.long 63], vm := .none },
  { cls := 8, slots := #[.long 64], vm := .none },
  { cls := 8, slots := #[.long 65], vm := .none },
  { cls := 8, slots := #[.long 66], vm := .none },
  { cls := 8, slots := #[.long 67], vm := .none },
  { cls := 8, slots := #[.long 68], vm := .none },
  { cls := 8, slots := #[.long 69], vm := .none },
  { cls := 8, slots := #[.long 70], vm := .none },
  { cls := 8, slots := #[.long 71], vm := .none },
  { cls := 8, slots := #[.long 72], vm := .none },
  { cls := 8, slots := #[.long 73], vm := .none },
  { cls := 8, slots := #[.long 74], vm := .none },
  { cls := 8, slots := #[.long 75], vm := .none },
  { cls := 8, slots := #[.long 76], vm := .none },
  { cls := 8, slots := #[.long 77], vm := .none },
  { cls := 8, slots := #[.long 78], vm := .none },
  { cls := 8, slots := #[.long 79], vm := .none },
  { cls := 8, slots := #[.long 80], vm := .none },
  { cls := 8, slots := #[.long 81], vm := .none },
  { cls := 8, slots := #[.long 82], vm := .none },
  { cls := 8, slots := #[.long 83], vm := .none },
  { cls := 8, slots := #[.long 84], vm := .none },
  { cls := 8, slots := #[.long 85], vm := .none },
  { cls := 8, slots := #[.long 86], vm := .none },
  { cls := 8, slots := #[.long 87], vm := .none },
  { cls := 8, slots := #[.long 88], vm := .none },
  { cls := 8, slots := #[.long 89], vm := .none },
  { cls := 8, slots := #[.long 90], vm := .none },
  { cls := 8, slots := #[.long 91], vm := .none },
  { cls := 8, slots := #[.long 92], vm := .none },
  { cls := 8, slots := #[.long 93], vm := .none },
  { cls := 8, slots := #[.long 94], vm := .none },
  { cls := 8, slots := #[.long 95], vm := .none },
  { cls := 8, slots := #[.long 96], vm := .none },
  { cls := 8, slots := #[.long 97], vm := .none },
  { cls := 8, slots := #[.long 98], vm := .none },
  { cls := 8, slots := #[.long 99], vm := .none },
  { cls := 8, slots := #[.long 100], vm := .none },
  { cls := 8, slots := #[.long 101], vm := .none },
  { cls := 8, slots := #[.long 102], vm := .none },
  { cls := 8, slots := #[.long 103], vm := .none },
  { cls := 8, slots := #[.long 104], vm := .none },
  { cls := 8, slots := #[.long 105], vm := .none },
  { cls := 8, slots := #[.long 106], vm := .none },
  { cls := 8, slots := #[.long 107], vm := .none },
  { cls := 8, slots := #[.long 108], vm := .none },
  { cls := 8, slots := #[.long 109], vm := .none },
  { cls := 8, slots := #[.long 110], vm := .none },
  { cls := 8, slots := #[.long 111], vm := .none },
  { cls := 8, slots := #[.long 112], vm := .none },
  { cls := 8, slots := #[.long 113], vm := .none },
  { cls := 8, slots := #[.long 114], vm := .none },
  { cls := 8, slots := #[.long 115], vm := .none },
  { cls := 8, slots := #[.long 116], vm := .none },
  { cls := 8, slots := #[.long 117], vm := .none },
  { cls := 8, slots := #[.long 118], vm := .none },
  { cls := 8, slots := #[.long 119], vm := .none },
  { cls := 8, slots := #[.long 120], vm := .none },
  { cls := 8, slots := #[.long 121], vm := .none },
  { cls := 8, slots := #[.long 122], vm := .none },
  { cls := 8, slots := #[.long 123], vm := .none },
  { cls := 8, slots := #[.long 124], vm := .none },
  { cls := 8, slots := #[.long 125], vm := .none },
  { cls := 8, slots := #[.long 126], vm := .none },
  { cls := 8, slots := #[.long 127], vm := .none }]
def classes : Array Class := #[k0, k1, k2, k3, k4, k5, k6, k7, k8, k9, k10, k11, k12, k13, k14, k15]
def interned : List (Array UInt16 × Addr) := []
def slotsUsed : Nat := 515
def theMethod : MethodId := ⟨1, 1⟩
def args0 : Array Value := #[.long 5, .long 6, .long 7, .long 8, .int 3]
def aboutOver (below : List Frame) : State where
  vm := { classes := classes, interned := interned.toArray }
  heap := heap
  slotsUsed := slotsUsed
  threads := #[{ frames := .invoking theMethod args0 :: below }]
def below0 : List Frame := [.native { method := ⟨0, 0⟩, args := #[] }]
def about1 : State := aboutOver below0
def p0 : Program := .bare "" "" ""
def e0 : Env := launch0.env 0 0 0
theorem w_frames : about1.frames = Frame.invoking theMethod args0 :: below0 := rfl
set_option maxRecDepth 65536 in
theorem w_args : argsFit about1.vm theMethod args0 = true := by decide +kernel
set_option maxRecDepth 65536 in
theorem w_heap : heapFits about1 = true := by decide +kernel
set_option maxRecDepth 65536 in
theorem w_runnable : about1.curStatus? = some .runnable := by decide +kernel
set_option maxRecDepth 65536 in
theorem w_alone : about1.alone = true := by decide +kernel
set_option maxRecDepth 65536 in
theorem w_named : about1.methodNamed? x = some theMethod := by decide +kernel
set_option maxRecDepth 65536 in
theorem w_hears : about1.hears theMethod below0 = true := by decide +kernel
set_option maxRecDepth 65536 in
theorem w_ripe : about1.ripe theMethod args0 below0 = true := by decide +kernel
theorem w_running : about1.status = .running := rfl
set_option maxRecDepth 65536 in
theorem w_room : about1.hasRoom e0.platform room_1 = true :=
  launch0.hasRoom_least _ room_1 (by decide +kernel) (by decide +kernel) (by decide +kernel) (by decide +kernel) (by decide +kernel) (by decide +kernel)
theorem allAtoms_all (ts : List Jvm.Cond) (a : Array Jvm.Value) (st : Jvm.State) : (allAtoms ts).before a st = ts.all (fun c => c.before a st) := by
  induction ts with
  | nil => rfl
  | cons c t ih =>
    show (Jvm.Cond.and c (allAtoms t)).before a st = _
    rw [Jvm.Cond.before_and, ih, List.all_cons]
def words1 : List Jvm.Cond := Jvm.Cond.code x code maxLocals ret :: tables_1
/-- a 'code' word, met by the world's own term for the bytes: nothing is compared byte by byte -/
theorem code_word {y : MethodName} {bytes : ByteArray} {mx : Nat} {rt : Option FieldType} {a : Array Value} {s : State} {m : MethodId} {meth : Method} {c : Code} (h1 : s.methodNamed? y = some m) (h2 : s.vm.method? m = some meth) (h3 : meth.code = some c) (h4 : c.code = bytes)
    (h5 : (c.maxLocals == mx && c.exceptionTable.isEmpty && decide (c.maxStack ≤ mostOperands) && decide (meth.sig.returnType = rt) && !meth.locks && decide (parseMethodDescriptor y.desc = some meth.sig)) = true) : (Jvm.Cond.code y bytes mx rt).before a s = true := by
  simp only [Bool.and_eq_true, beq_iff_eq, Bool.not_eq_true', decide_eq_true_eq] at h5
  obtain ⟨⟨⟨⟨⟨g1, g2⟩, g3⟩, g4⟩, g5⟩, g6⟩ := h5
  simp [Cond.before, Cond.holds, Cond.value, h1, h2, h3, h4, g1, g2, g3, g4, g5, g6]
def isCode : Jvm.Cond → Bool
  | .code _ _ _ _ => true
  | _ => false
theorem all_split {L : List Jvm.Cond} {P : Jvm.Cond → Bool} (h1 : L.all (fun c => isCode c || P c) = true) (h2 : ∀ c ∈ L.filter isCode, P c = true) : L.all P = true := by
  refine List.all_eq_true.mpr fun c hc => ?_
  have h := List.all_eq_true.mp h1 c hc
  rcases Bool.eq_false_or_eq_true (isCode c) with hi | hi
  · exact h2 c (List.mem_filter.mpr ⟨hc, hi⟩)
  · simpa [hi] using h
set_option maxRecDepth 65536 in
theorem w_c0 : (Jvm.Cond.code x code maxLocals ret).before args0 about1 = true := code_word (m := ⟨1, 1⟩) (meth := k1m1) (c := k1c1) (by decide +kernel) rfl rfl rfl (by decide +kernel)
set_option maxRecDepth 65536 in
theorem w_c1 : (Jvm.Cond.code ({ cls := "com/example/halyard/halyard/messages/SubscriptionAcknowledgement", name := "<init>", desc := "(JJ)V" } : Jvm.MethodName) prog_92_method_1_code (5 : Nat) (Option.none : Option Jvm.ClassFile.FieldType)).before args0 about1 = true := code_word (m := ⟨2, 0⟩) (meth := k2m0) (c := k2c0) (by decide +kernel) rfl rfl rfl (by decide +kernel)
set_option maxRecDepth 65536 in
theorem w_c2 : (Jvm.Cond.code ({ cls := "java/lang/Object", name := "<init>", desc := "()V" } : Jvm.MethodName) object_method_1_code (1 : Nat) (Option.none : Option Jvm.ClassFile.FieldType)).before args0 about1 = true := code_word (m := ⟨0, 0⟩) (meth := k0m0) (c := k0c0) (by decide +kernel) rfl rfl rfl (by decide +kernel)
set_option maxRecDepth 65536 in
theorem w_c3 : (Jvm.Cond.code ({ cls := "com/example/halyard/halyard/messages/SubscriptionAcknowledgement", name := "equals", desc := "(Ljava/lang/Object;)Z" } : Jvm.MethodName) prog_92_method_6_code (3 : Nat) (Option.some Jvm.ClassFile.FieldType.boolean)).before args0 about1 = true := code_word (m := ⟨2, 1⟩) (meth := k2m1) (c := k2c1) (by decide +kernel) rfl rfl rfl (by decide +kernel)
set_option maxRecDepth 65536 in
theorem w_c4 : (Jvm.Cond.code ({ cls := "java/lang/Long", name := "valueOf", desc := "(J)Ljava/lang/Long;" } : Jvm.MethodName) jdk_35_method_24_code (3 : Nat) (Option.some (Jvm.ClassFile.FieldType.object "java/lang/Long"))).before args0 about1 = true := code_word (m := ⟨8, 0⟩) (meth := k8m0) (c := k8c0) (by decide +kernel) rfl rfl rfl (by decide +kernel)
set_option maxRecDepth 65536 in
theorem w_c5 : (Jvm.Cond.code ({ cls := "java/lang/Long", name := "<init>", desc := "(J)V" } : Jvm.MethodName) jdk_35_method_26_code (3 : Nat) (Option.none : Option Jvm.ClassFile.FieldType)).before args0 about1 = true := code_word (m := ⟨8, 1⟩) (meth := k8m1) (c := k8c1) (by decide +kernel) rfl rfl rfl (by decide +kernel)
set_option maxRecDepth 65536 in
theorem w_c6 : (Jvm.Cond.code ({ cls := "java/lang/Number", name := "<init>", desc := "()V" } : Jvm.MethodName) jdk_18_method_1_code (1 : Nat) (Option.none : Option Jvm.ClassFile.FieldType)).before args0 about1 = true := code_word (m := ⟨4, 0⟩) (meth := k4m0) (c := k4c0) (by decide +kernel) rfl rfl rfl (by decide +kernel)
def codes1 : List Jvm.Cond := [Jvm.Cond.code x code maxLocals ret, Jvm.Cond.code ({ cls := "com/example/halyard/halyard/messages/SubscriptionAcknowledgement", name := "<init>", desc := "(JJ)V" } : Jvm.MethodName) prog_92_method_1_code (5 : Nat) (Option.none : Option Jvm.ClassFile.FieldType), Jvm.Cond.code ({ cls := "java/lang/Object", name := "<init>", desc := "()V" } : Jvm.MethodName) object_method_1_code (1 : Nat) (Option.none : Option Jvm.ClassFile.FieldType), Jvm.Cond.code ({ cls := "com/example/halyard/halyard/messages/SubscriptionAcknowledgement", name := "equals", desc := "(Ljava/lang/Object;)Z" } : Jvm.MethodName) prog_92_method_6_code (3 : Nat) (Option.some Jvm.ClassFile.FieldType.boolean), Jvm.Cond.code ({ cls := "java/lang/Long", name := "valueOf", desc := "(J)Ljava/lang/Long;" } : Jvm.MethodName) jdk_35_method_24_code (3 : Nat) (Option.some (Jvm.ClassFile.FieldType.object "java/lang/Long")), Jvm.Cond.code ({ cls := "java/lang/Long", name := "<init>", desc := "(J)V" } : Jvm.MethodName) jdk_35_method_26_code (3 : Nat) (Option.none : Option Jvm.ClassFile.FieldType), Jvm.Cond.code ({ cls := "java/lang/Number", name := "<init>", desc := "()V" } : Jvm.MethodName) jdk_18_method_1_code (1 : Nat) (Option.none : Option Jvm.ClassFile.FieldType)]
set_option maxRecDepth 65536 in
theorem codes_eq : words1.filter isCode = codes1 := rfl
theorem w_codes : ∀ c ∈ words1.filter isCode, c.before args0 about1 = true := by
  rw [codes_eq]
  intro c hc
  simp only [codes1, List.mem_cons, List.not_mem_nil, or_false] at hc
  rcases hc with rfl | rfl | rfl | rfl | rfl | rfl | rfl
  · exact w_c0
  · exact w_c1
  · exact w_c2
  · exact w_c3
  · exact w_c4
  · exact w_c5
  · exact w_c6
set_option maxRecDepth 65536 in
theorem w_t1 : (words1.take 24).all (fun c => isCode c || c.before args0 about1) = true := by decide +kernel
set_option maxRecDepth 65536 in
theorem w_t2 : (words1.drop 24).all (fun c => isCode c || c.before args0 about1) = true := by decide +kernel
theorem w_tables : (allAtoms (Jvm.Cond.code x code maxLocals ret :: tables_1)).before args0 about1 = true := by
  rw [allAtoms_all]
  show words1.all (fun c => c.before args0 about1) = true
  refine all_split ?_ w_codes
  rw [← List.take_append_drop 24 words1, List.all_append, w_t1, w_t2]
  rfl
set_option maxRecDepth 65536 in
theorem w_rest : rest_1_c.before args0 about1 = true := by decide +kernel
set_option maxRecDepth 65536 in
theorem w_case : (Jvm.Cond.and given_1 narrow_1).before args0 about1 = true := by decide +kernel
theorem w_applies : (headSpec (Jvm.Cond.code x code maxLocals ret :: tables_1) room_1).applies x e0.platform about1 = true :=
  (Spec.applies_iff w_frames).mpr ⟨w_running, w_runnable, w_alone, w_named, w_hears, w_ripe, w_room, w_tables⟩
theorem atStart : AtStart classFile x code maxLocals ret World_1 tables_1 room_1 Calls_1 rest_1 Pre_1 launch0 p0 e0 about1 theMethod args0 below0 :=
  ⟨lists_1, trivial, launch0.admits_env _ _ _, launch0.least_env, fairChoices_fair.cas, fairChoices_fair.clock, w_frames, w_args, w_heap, w_applies, trivial, w_rest, w_case⟩
end start1
theorem witness_1 : WitnessClaimed_1 := ⟨start1.p0, start1.e0, start1.about1, start1.theMethod, start1.args0, start1.below0, start1.atStart⟩
end Jvm.Pilot.@@N@@
