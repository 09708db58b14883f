import JvmDerived
import JvmDerived.Pilot.@@N@@Statement
import JvmDerived.Pilot.@@N@@Code
set_option linter.unusedVariables false
set_option linter.unusedSimpArgs false
namespace Jvm.Pilot.@@N@@
open Jvm Jvm.ClassFile Sem Op Lib Jvm.Free Jvm.Stand Jvm.LawKit Jvm.RoadKit Bundle Jvm.Pilot.@@N@@.Jvm.D
/-- from A the run comes to B -/
def Go (p : Program) (e : Env) (below : List Frame) (A B : State) : Prop := ∀ t, Steps p.tables e below B t → Steps p.tables e below A t
def own_b (P : Prop) [Decidable P] : Int32 := if P then 1 else 0
theorem own_b1 {P : Prop} [Decidable P] (h : P) : ¬ own_b P = (0 : Int32) := by simp [own_b, h]
theorem own_b0 {P : Prop} [Decidable P] (h : ¬ P) : own_b P = (0 : Int32) := by simp [own_b, h]
theorem own_bt {P : Prop} [Decidable P] (h : P) : own_b P = (1 : Int32) := by simp [own_b, h]
theorem own_nb {P : Prop} [Decidable P] : nar .boolean (own_b P) = own_b P := by by_cases h : P <;> simp [own_b, h] <;> decide
theorem own_beq {P R : Prop} [Decidable P] [Decidable R] (h : P ↔ R) : own_b P = own_b R := by by_cases q : P <;> simp [own_b, q, ← h]
theorem d1_0 : decode prog_19_method_5_code 0 = .ok (.getstatic 36, 3) := by decide +kernel
theorem d1_3 : decode prog_19_method_5_code 3 = .ok (.astore_n 1, 1) := by decide +kernel
theorem d1_4 : decode prog_19_method_5_code 4 = .ok (.aload_n 1, 1) := by decide +kernel
theorem d1_5 : decode prog_19_method_5_code 5 = .ok (.arraylength, 1) := by decide +kernel
theorem d1_6 : decode prog_19_method_5_code 6 = .ok (.istore_n 2, 1) := by decide +kernel
theorem d1_7 : decode prog_19_method_5_code 7 = .ok (.iconst 0, 1) := by decide +kernel
theorem d1_8 : decode prog_19_method_5_code 8 = .ok (.istore_n 3, 1) := by decide +kernel
theorem d1_9 : decode prog_19_method_5_code 9 = .ok (.iload_n 3, 1) := by decide +kernel
theorem d1_10 : decode prog_19_method_5_code 10 = .ok (.iload_n 2, 1) := by decide +kernel
theorem d1_11 : decode prog_19_method_5_code 11 = .ok (.if_icmp .ge 26, 3) := by decide +kernel
theorem d1_14 : decode prog_19_method_5_code 14 = .ok (.aload_n 1, 1) := by decide +kernel
theorem d1_15 : decode prog_19_method_5_code 15 = .ok (.iload_n 3, 1) := by decide +kernel
theorem d1_16 : decode prog_19_method_5_code 16 = .ok (.aaload, 1) := by decide +kernel
theorem d1_17 : decode prog_19_method_5_code 17 = .ok (.astore 4, 2) := by decide +kernel
theorem d1_19 : decode prog_19_method_5_code 19 = .ok (.aload 4, 2) := by decide +kernel
theorem d1_21 : decode prog_19_method_5_code 21 = .ok (.getfield 32, 3) := by decide +kernel
theorem d1_24 : decode prog_19_method_5_code 24 = .ok (.iload_n 0, 1) := by decide +kernel
theorem d1_25 : decode prog_19_method_5_code 25 = .ok (.if_icmp .ne 6, 3) := by decide +kernel
theorem d1_28 : decode prog_19_method_5_code 28 = .ok (.aload 4, 2) := by decide +kernel
theorem d1_30 : decode prog_19_method_5_code 30 = .ok (.areturn, 1) := by decide +kernel
theorem d1_31 : decode prog_19_method_5_code 31 = .ok (.iinc 3 1, 3) := by decide +kernel
theorem d1_34 : decode prog_19_method_5_code 34 = .ok (.goto (-25), 3) := by decide +kernel
theorem d1_37 : decode prog_19_method_5_code 37 = .ok (.aconst_null, 1) := by decide +kernel
theorem d1_38 : decode prog_19_method_5_code 38 = .ok (.areturn, 1) := by decide +kernel
theorem d2_0 : decode prog_19_method_4_code 0 = .ok (.aload_n 0, 1) := by decide +kernel
theorem d2_1 : decode prog_19_method_4_code 1 = .ok (.getfield 32, 3) := by decide +kernel
theorem d2_4 : decode prog_19_method_4_code 4 = .ok (.ireturn, 1) := by decide +kernel
theorem pn_0 : plainName "com/example/subtree/subtree/index/NodeKind" = true := by first | (simp [plainName, overriddenIn]; done) | decide +kernel
theorem pn_1 : plainName "com/example/subtree/subtree/index/NodeKindOfCodePinLaw" = true := by first | (simp [plainName, overriddenIn]; done) | decide +kernel
theorem pd_0 : parseMethodDescriptor "(B)Lcom/example/subtree/subtree/index/NodeKind;" = some ⟨[.byte], some (.object "com/example/subtree/subtree/index/NodeKind")⟩ := by decide +kernel
theorem pd_1 : parseMethodDescriptor "()B" = some ⟨[], some .byte⟩ := by decide +kernel
theorem ef_rm1 (m : MethodId) (x0 : Int32) : entryFrame m #[(.int x0)] 5 = mkF m 0 #[.val (.int x0), .unset, .unset, .unset, .unset] [] := by first | (simp [entryFrame, mkF, argsToLocals, Value.category]; done) | rfl
theorem ef_rm2 (m : MethodId) (x0 : Addr) : entryFrame m #[(.ref x0)] 1 = mkF m 0 #[.val (.ref x0)] [] := by first | (simp [entryFrame, mkF, argsToLocals, Value.category]; done) | rfl
theorem ef_rm0 (m : MethodId) (x0 : Int32) : entryFrame m #[(.int x0)] maxLocals = mkF m 0 #[.val (.int x0), .unset, .unset, .unset] [] := by first | (simp [entryFrame, mkF, argsToLocals, Value.category, maxLocals]; done) | rfl
theorem own_eqI {args : Array Value} {s : State} {t : Term} {k : Int32} (h : (Jvm.Cond.eq t (.int k)).value args s none s [] = some true) : t.eval args s none [] s = some (.int k) := by
  simp only [Cond.value, Term.eval] at h
  cases ht : t.eval args s none [] s with
  | none => simp [ht] at h
  | some x => cases x <;> simp [ht] at h ⊢; exact h
theorem own_eqR {args : Array Value} {s : State} {t u : Term} {b : Addr} (h : (Jvm.Cond.eq t u).value args s none s [] = some true) (hu : u.eval args s none [] s = some (.ref b)) : t.eval args s none [] s = some (.ref b) := by
  simp only [Cond.value, hu] at h
  cases ht : t.eval args s none [] s with
  | none => simp [ht] at h
  | some x => cases x <;> simp [ht] at h ⊢; exact h
theorem own_arv {args : Array Value} {s : State} {t : Term} {a : Addr} {cl : Cell} {ty : FieldType} {z : Int32} (A : Arr s s.heap a cl ty) (ht : t.eval args s none [] s = some (.ref a)) (hl : (Term.length t).eval args s none [] s = some (.int z)) : cl.slots.size < 2 ^ 31 ∧ cl.slots.size.toInt32 = z := by
  obtain ⟨b, cell, e1, e2, h31, e3⟩ := Jvm.Lib.length_spec hl
  cases ht.symm.trans e1
  have e4 := A.fin (Vm.Alike.refl _)
  cases e4.symm.trans e2
  exact ⟨h31, (Value.int.inj e3).symm⟩
def Qr (r : Value) (h0 : Heap) (n0 : Nat) (v : Option Value) (h : Heap) (L : List Loc) : Prop := v = some r ∧ Fr n0 L ∧ h = h0
set_option maxRecDepth 65536 in
set_option maxHeartbeats 40000000 in
theorem rm1 (l : Launch) (Z : State) (a0 : Array Value) (hw : ∀ d ∈ tables_1, d.before a0 Z = true) (ws : List Jvm.Cond) (p0 : Int32) (a_ELEMENT a_WORD a_ATTRIBUTE a_KINDS : Addr) (kK : ClassId) (r : Value) (h0 : Heap) (n0 : Nat) (Z0 : n0 ≤ h0.size) (S_KINDS : Sta Z h0 "com/example/subtree/subtree/index/NodeKind" "KINDS" "[Lcom/example/subtree/subtree/index/NodeKind;" (.ref a_KINDS)) (V_a_KINDS : Arv Z h0 a_KINDS kK (.object "com/example/subtree/subtree/index/NodeKind") (3 : Int32) [(.ref a_ELEMENT), (.ref a_WORD), (.ref a_ATTRIBUTE)] .null) (F_a_ELEMENT_code : Fld Z h0 a_ELEMENT "com/example/subtree/subtree/index/NodeKind" "code" "B" (.int (0 : Int32))) (F_a_WORD_code : Fld Z h0 a_WORD "com/example/subtree/subtree/index/NodeKind" "code" "B" (.int (1 : Int32))) (F_a_ATTRIBUTE_code : Fld Z h0 a_ATTRIBUTE "com/example/subtree/subtree/index/NodeKind" "code" "B" (.int (2 : Int32))) (hr0 : (if p0 = (0 : Int32) then Value.ref a_ELEMENT else if p0 = (1 : Int32) then Value.ref a_WORD else if p0 = (2 : Int32) then Value.ref a_ATTRIBUTE else Value.null) = r) :
    MetFree l (⟨"com/example/subtree/subtree/index/NodeKind", "ofCode", "(B)Lcom/example/subtree/subtree/index/NodeKind;"⟩ : MethodName) (head1 (Jvm.Cond.code (⟨"com/example/subtree/subtree/index/NodeKind", "ofCode", "(B)Lcom/example/subtree/subtree/index/NodeKind;"⟩ : MethodName) prog_19_method_5_code 5 (some (.object "com/example/subtree/subtree/index/NodeKind")) :: ws) ({ frames := 0, cells := 0, slots := 0, locals := 0 } : Room)) (fun aa UU => aa = #[(.int p0)] ∧ Z.Warmed39 UU.vm ∧ UU.heap = h0) (fun _ _ _ _ _ => True) (fun _ UU oo U' => ∃ v L, oo = .returned v ∧ Qr r h0 n0 v U'.heap L ∧ FrameEnd UU oo U' L ({ frames := 0, cells := 0, slots := 0, locals := 0 } : Room).cells ({ frames := 0, cells := 0, slots := 0, locals := 0 } : Room).slots) := by
  refine MetFree.of_bodySF (plainFor_of_name pn_0) hisR ?_
  intro p e s m args below meth c s₁ Bd hml0 hP hK
  obtain ⟨rfl, hZ, hh⟩ := hP
  have hx := Bd.exec
  have hby := Bd.bytes
  have hml : c.maxLocals = 5 := hml0
  have hown : s.vm.findClass "com/example/subtree/subtree/index/NodeKind" = some m.cls := findClass_of_methodNamed Bd.named
  have hnm := (name_of_methodNamed Bd.named Bd.method).1
  have X0 : Stand p l e ({ frames := 0, cells := 0, slots := 0, locals := 0 } : Room) s m #[(.int p0)] below meth c s₁ [] 0 0 := Stand.of_body Bd
  have e0 : s₁.heap = h0 := by rw [← hh, Bd.state]; rfl
  have N0 := Fr.nil n0
  obtain ⟨A0, hA0⟩ : ∃ A, A = s₁.setTop (entryFrame m #[(.int p0)] 5) := ⟨_, rfl⟩
  have G0 : Go p e below A0 (s₁.setTop (mkF m 0 #[.val (.int p0), .unset, .unset, .unset, .unset] [])) := fun tq kq => by rw [hA0]; exact castTop (ef_rm1 m p0) kq
  obtain ⟨T1, X1, e1, st1⟩ := getS2 X0 hx hZ hown (host := "") (Or.inl (hw _ (List.mem_of_getElem? (i := 6) rfl))) Via.refl e0 S_KINDS (g := (mkF m 0 #[.val (.int p0), .unset, .unset, .unset, .unset] [])) rfl (hb hby d1_0)
  have G2 : Go p e below A0 (T1.setTop (mkF m 3 #[.val (.int p0), .unset, .unset, .unset, .unset] [(.ref a_KINDS)])) := fun tq kq => G0 tq (st1 _ kq)
  have G3 : Go p e below A0 (T1.setTop (mkF m 5 #[.val (.int p0), .val (.ref a_KINDS), .unset, .unset, .unset] [(.ref a_KINDS)])) := fun tq kq => G2 tq (by
    refine XS.astoreN X1.here hx rfl (hb hby d1_3) rfl rfl (l' := #[.val (.int p0), .val (.ref a_KINDS), .unset, .unset, .unset]) rfl ?_
    show Steps p.tables e below (T1.setTop (mkF m 4 #[.val (.int p0), .val (.ref a_KINDS), .unset, .unset, .unset] [])) _
    refine XS.aloadN X1.here hx rfl (hb hby d1_4) rfl rfl ?_
    show Steps p.tables e below (T1.setTop (mkF m 5 #[.val (.int p0), .val (.ref a_KINDS), .unset, .unset, .unset] [(.ref a_KINDS)])) _
    exact kq)
  obtain ⟨cl4, Ar4, q4, S4, M4, H4, Gf4⟩ := id V_a_KINDS
  have G5 : Go p e below A0 (T1.setTop (mkF m 16 #[.val (.int p0), .val (.ref a_KINDS), .val (.int (3 : Int32)), .val (.int (0 : Int32)), .unset] [(.int (0 : Int32)), (.ref a_KINDS)])) := fun tq kq => G3 tq (by
    refine X1.arraylength hx (by rw [e1]; exact Ar4.1) (State.isArrayOf_alike hZ.alike Ar4.2.1) (g := (mkF m 5 #[.val (.int p0), .val (.ref a_KINDS), .unset, .unset, .unset] [(.ref a_KINDS)])) rfl rfl (hb hby d1_5) _ ?_
    rw [len_of S4 M4]
    show Steps p.tables e below (T1.setTop (mkF m 6 #[.val (.int p0), .val (.ref a_KINDS), .unset, .unset, .unset] [(.int (3 : Int32))])) _
    refine XS.istoreN X1.here hx rfl (hb hby d1_6) rfl (l' := #[.val (.int p0), .val (.ref a_KINDS), .val (.int (3 : Int32)), .unset, .unset]) rfl ?_
    show Steps p.tables e below (T1.setTop (mkF m 7 #[.val (.int p0), .val (.ref a_KINDS), .val (.int (3 : Int32)), .unset, .unset] [])) _
    refine XS.iconst X1.here hx rfl (hb hby d1_7) ?_
    show Steps p.tables e below (T1.setTop (mkF m 8 #[.val (.int p0), .val (.ref a_KINDS), .val (.int (3 : Int32)), .unset, .unset] [(.int (0 : Int32))])) _
    refine XS.istoreN X1.here hx rfl (hb hby d1_8) rfl (l' := #[.val (.int p0), .val (.ref a_KINDS), .val (.int (3 : Int32)), .val (.int (0 : Int32)), .unset]) rfl ?_
    show Steps p.tables e below (T1.setTop (mkF m 9 #[.val (.int p0), .val (.ref a_KINDS), .val (.int (3 : Int32)), .val (.int (0 : Int32)), .unset] [])) _
    refine XS.iloadN X1.here hx rfl (hb hby d1_9) rfl ?_
    show Steps p.tables e below (T1.setTop (mkF m 10 #[.val (.int p0), .val (.ref a_KINDS), .val (.int (3 : Int32)), .val (.int (0 : Int32)), .unset] [(.int (0 : Int32))])) _
    refine XS.iloadN X1.here hx rfl (hb hby d1_10) rfl ?_
    show Steps p.tables e below (T1.setTop (mkF m 11 #[.val (.int p0), .val (.ref a_KINDS), .val (.int (3 : Int32)), .val (.int (0 : Int32)), .unset] [(.int (3 : Int32)), (.int (0 : Int32))])) _
    refine XS.icmpNo X1.here hx rfl (hb hby d1_11) rfl (by decide) ?_
    show Steps p.tables e below (T1.setTop (mkF m 14 #[.val (.int p0), .val (.ref a_KINDS), .val (.int (3 : Int32)), .val (.int (0 : Int32)), .unset] [])) _
    refine XS.aloadN X1.here hx rfl (hb hby d1_14) rfl rfl ?_
    show Steps p.tables e below (T1.setTop (mkF m 15 #[.val (.int p0), .val (.ref a_KINDS), .val (.int (3 : Int32)), .val (.int (0 : Int32)), .unset] [(.ref a_KINDS)])) _
    refine XS.iloadN X1.here hx rfl (hb hby d1_15) rfl ?_
    show Steps p.tables e below (T1.setTop (mkF m 16 #[.val (.int p0), .val (.ref a_KINDS), .val (.int (3 : Int32)), .val (.int (0 : Int32)), .unset] [(.int (0 : Int32)), (.ref a_KINDS)])) _
    exact kq)
  obtain ⟨cl6, Ar6, q6, S6, M6, H6, Gf6⟩ := id V_a_KINDS
  have hi7 : ¬ ((0 : Int32) < 0 ∨ cl6.slots.size ≤ ((0 : Int32)).toNatClampNeg) := (inb_of S6 ⟨by decide, by decide⟩)
  have G8 : Go p e below A0 (T1.setTop (mkF m 21 #[.val (.int p0), .val (.ref a_KINDS), .val (.int (3 : Int32)), .val (.int (0 : Int32)), .val (.ref a_ELEMENT)] [(.ref a_ELEMENT)])) := fun tq kq => G5 tq (by
    refine X1.aaload hx (j := (0 : Int32)) (v := (.ref a_ELEMENT)) (by rw [e1]; exact Ar6.1) (State.isArrayOf_alike hZ.alike Ar6.2.1) rfl Ar6.2.2 hi7 (H6.at hi7 rfl) (g := (mkF m 16 #[.val (.int p0), .val (.ref a_KINDS), .val (.int (3 : Int32)), .val (.int (0 : Int32)), .unset] [(.int (0 : Int32)), (.ref a_KINDS)])) rfl rfl (hb hby d1_16) _ ?_
    show Steps p.tables e below (T1.setTop (mkF m 17 #[.val (.int p0), .val (.ref a_KINDS), .val (.int (3 : Int32)), .val (.int (0 : Int32)), .unset] [(.ref a_ELEMENT)])) _
    refine XS.astore X1.here hx rfl (hb hby d1_17) rfl rfl (l' := #[.val (.int p0), .val (.ref a_KINDS), .val (.int (3 : Int32)), .val (.int (0 : Int32)), .val (.ref a_ELEMENT)]) rfl ?_
    show Steps p.tables e below (T1.setTop (mkF m 19 #[.val (.int p0), .val (.ref a_KINDS), .val (.int (3 : Int32)), .val (.int (0 : Int32)), .val (.ref a_ELEMENT)] [])) _
    refine XS.aload X1.here hx rfl (hb hby d1_19) rfl rfl ?_
    show Steps p.tables e below (T1.setTop (mkF m 21 #[.val (.int p0), .val (.ref a_KINDS), .val (.int (3 : Int32)), .val (.int (0 : Int32)), .val (.ref a_ELEMENT)] [(.ref a_ELEMENT)])) _
    exact kq)
  obtain ⟨T9, X9, e9, st9⟩ := getF X1 hx hZ hown (host := "") (Or.inl (hw _ (List.mem_of_getElem? (i := 8) rfl))) Via.refl e1 F_a_ELEMENT_code (g := (mkF m 21 #[.val (.int p0), .val (.ref a_KINDS), .val (.int (3 : Int32)), .val (.int (0 : Int32)), .val (.ref a_ELEMENT)] [(.ref a_ELEMENT)])) rfl rfl (hb hby d1_21)
  have G10 : Go p e below A0 (T9.setTop (mkF m 24 #[.val (.int p0), .val (.ref a_KINDS), .val (.int (3 : Int32)), .val (.int (0 : Int32)), .val (.ref a_ELEMENT)] [(.int (0 : Int32))])) := fun tq kq => G8 tq (st9 _ kq)
  have G11 : Go p e below A0 (T9.setTop (mkF m 25 #[.val (.int p0), .val (.ref a_KINDS), .val (.int (3 : Int32)), .val (.int (0 : Int32)), .val (.ref a_ELEMENT)] [(.int p0), (.int (0 : Int32))])) := fun tq kq => G10 tq (by
    refine XS.iloadN X9.here hx rfl (hb hby d1_24) rfl ?_
    show Steps p.tables e below (T9.setTop (mkF m 25 #[.val (.int p0), .val (.ref a_KINDS), .val (.int (3 : Int32)), .val (.int (0 : Int32)), .val (.ref a_ELEMENT)] [(.int p0), (.int (0 : Int32))])) _
    exact kq)
  by_cases hc12 : p0 = (0 : Int32)
  · have G13 : Go p e below A0 (T9.setTop (mkF m 30 #[.val (.int p0), .val (.ref a_KINDS), .val (.int (3 : Int32)), .val (.int (0 : Int32)), .val (.ref a_ELEMENT)] [(.ref a_ELEMENT)])) := fun tq kq => G11 tq (by
      refine XS.icmpNo X9.here hx rfl (hb hby d1_25) rfl (teq (Eq.symm hc12)).2 ?_
      show Steps p.tables e below (T9.setTop (mkF m 28 #[.val (.int p0), .val (.ref a_KINDS), .val (.int (3 : Int32)), .val (.int (0 : Int32)), .val (.ref a_ELEMENT)] [])) _
      refine XS.aload X9.here hx rfl (hb hby d1_28) rfl rfl ?_
      show Steps p.tables e below (T9.setTop (mkF m 30 #[.val (.int p0), .val (.ref a_KINDS), .val (.int (3 : Int32)), .val (.int (0 : Int32)), .val (.ref a_ELEMENT)] [(.ref a_ELEMENT)])) _
      exact kq)
    obtain ⟨fs, hr, hrun, hended, hW, hsame⟩ := X9.leave (v := some (.ref a_ELEMENT)) (fun h => by rw [Bd.returns] at h; cases h)
    refine ⟨_, _, (by rw [← hA0]; exact G13 _ (retOut X9 hx (t := (.object "com/example/subtree/subtree/index/NodeKind")) Bd.returns rfl (Or.inr (Or.inr (Or.inr (Or.inr ⟨rfl, rfl, rfl⟩)))) (hb hby d1_30) hr)), hrun, hended, _, _, rfl, ?_, ⟨_, rfl⟩, hW, hsame.mono (by decide) (by decide)⟩
    exact ⟨(by rw [← hr0]; simp [hc12]), N0, e9⟩
  · have G14 : Go p e below A0 (T9.setTop (mkF m 16 #[.val (.int p0), .val (.ref a_KINDS), .val (.int (3 : Int32)), .val (.int (1 : Int32)), .val (.ref a_ELEMENT)] [(.int (1 : Int32)), (.ref a_KINDS)])) := fun tq kq => G11 tq (by
      refine XS.icmpYes X9.here hx rfl (pc0 := 25) (pc' := 31) rfl (hb hby d1_25) rfl (feq (fun q => hc12 q.symm)).2 (by decide) (by decide) ?_
      show Steps p.tables e below (T9.setTop (mkF m 31 #[.val (.int p0), .val (.ref a_KINDS), .val (.int (3 : Int32)), .val (.int (0 : Int32)), .val (.ref a_ELEMENT)] [])) _
      refine XS.iinc X9.here hx rfl (hb hby d1_31) rfl (l' := #[.val (.int p0), .val (.ref a_KINDS), .val (.int (3 : Int32)), .val (.int ((0 : Int32) + (1 : Int32))), .val (.ref a_ELEMENT)]) rfl ?_
      show Steps p.tables e below (T9.setTop (mkF m 34 #[.val (.int p0), .val (.ref a_KINDS), .val (.int (3 : Int32)), .val (.int ((0 : Int32) + (1 : Int32))), .val (.ref a_ELEMENT)] [])) _
      rw [show ((0 : Int32) + (1 : Int32)) = (1 : Int32) from (by decide : ((0 : Int32) + (1 : Int32)) = (1 : Int32))]
      show Steps p.tables e below (T9.setTop (mkF m 34 #[.val (.int p0), .val (.ref a_KINDS), .val (.int (3 : Int32)), .val (.int (1 : Int32)), .val (.ref a_ELEMENT)] [])) _
      refine XS.goto X9.here hx rfl (pc0 := 34) (pc' := 9) rfl (hb hby d1_34) (by decide) (by decide) ?_
      show Steps p.tables e below (T9.setTop (mkF m 9 #[.val (.int p0), .val (.ref a_KINDS), .val (.int (3 : Int32)), .val (.int (1 : Int32)), .val (.ref a_ELEMENT)] [])) _
      refine XS.iloadN X9.here hx rfl (hb hby d1_9) rfl ?_
      show Steps p.tables e below (T9.setTop (mkF m 10 #[.val (.int p0), .val (.ref a_KINDS), .val (.int (3 : Int32)), .val (.int (1 : Int32)), .val (.ref a_ELEMENT)] [(.int (1 : Int32))])) _
      refine XS.iloadN X9.here hx rfl (hb hby d1_10) rfl ?_
      show Steps p.tables e below (T9.setTop (mkF m 11 #[.val (.int p0), .val (.ref a_KINDS), .val (.int (3 : Int32)), .val (.int (1 : Int32)), .val (.ref a_ELEMENT)] [(.int (3 : Int32)), (.int (1 : Int32))])) _
      refine XS.icmpNo X9.here hx rfl (hb hby d1_11) rfl (by decide) ?_
      show Steps p.tables e below (T9.setTop (mkF m 14 #[.val (.int p0), .val (.ref a_KINDS), .val (.int (3 : Int32)), .val (.int (1 : Int32)), .val (.ref a_ELEMENT)] [])) _
      refine XS.aloadN X9.here hx rfl (hb hby d1_14) rfl rfl ?_
      show Steps p.tables e below (T9.setTop (mkF m 15 #[.val (.int p0), .val (.ref a_KINDS), .val (.int (3 : Int32)), .val (.int (1 : Int32)), .val (.ref a_ELEMENT)] [(.ref a_KINDS)])) _
      refine XS.iloadN X9.here hx rfl (hb hby d1_15) rfl ?_
      show Steps p.tables e below (T9.setTop (mkF m 16 #[.val (.int p0), .val (.ref a_KINDS), .val (.int (3 : Int32)), .val (.int (1 : Int32)), .val (.ref a_ELEMENT)] [(.int (1 : Int32)), (.ref a_KINDS)])) _
      exact kq)
    obtain ⟨cl15, Ar15, q15, S15, M15, H15, Gf15⟩ := id V_a_KINDS
    have hi16 : ¬ ((1 : Int32) < 0 ∨ cl15.slots.size ≤ ((1 : Int32)).toNatClampNeg) := (inb_of S15 ⟨by decide, by decide⟩)
    have G17 : Go p e below A0 (T9.setTop (mkF m 21 #[.val (.int p0), .val (.ref a_KINDS), .val (.int (3 : Int32)), .val (.int (1 : Int32)), .val (.ref a_WORD)] [(.ref a_WORD)])) := fun tq kq => G14 tq (by
      refine X9.aaload hx (j := (1 : Int32)) (v := (.ref a_WORD)) (by rw [e9]; exact Ar15.1) (State.isArrayOf_alike hZ.alike Ar15.2.1) rfl Ar15.2.2 hi16 (H15.at hi16 rfl) (g := (mkF m 16 #[.val (.int p0), .val (.ref a_KINDS), .val (.int (3 : Int32)), .val (.int (1 : Int32)), .val (.ref a_ELEMENT)] [(.int (1 : Int32)), (.ref a_KINDS)])) rfl rfl (hb hby d1_16) _ ?_
      show Steps p.tables e below (T9.setTop (mkF m 17 #[.val (.int p0), .val (.ref a_KINDS), .val (.int (3 : Int32)), .val (.int (1 : Int32)), .val (.ref a_ELEMENT)] [(.ref a_WORD)])) _
      refine XS.astore X9.here hx rfl (hb hby d1_17) rfl rfl (l' := #[.val (.int p0), .val (.ref a_KINDS), .val (.int (3 : Int32)), .val (.int (1 : Int32)), .val (.ref a_WORD)]) rfl ?_
      show Steps p.tables e below (T9.setTop (mkF m 19 #[.val (.int p0), .val (.ref a_KINDS), .val (.int (3 : Int32)), .val (.int (1 : Int32)), .val (.ref a_WORD)] [])) _
      refine XS.aload X9.here hx rfl (hb hby d1_19) rfl rfl ?_
      show Steps p.tables e below (T9.setTop (mkF m 21 #[.val (.int p0), .val (.ref a_KINDS), .val (.int (3 : Int32)), .val (.int (1 : Int32)), .val (.ref a_WORD)] [(.ref a_WORD)])) _
      exact kq)
    obtain ⟨T18, X18, e18, st18⟩ := getF X9 hx hZ hown (host := "") (Or.inl (hw _ (List.mem_of_getElem? (i := 8) rfl))) Via.refl e9 F_a_WORD_code (g := (mkF m 21 #[.val (.int p0), .val (.ref a_KINDS), .val (.int (3 : Int32)), .val (.int (1 : Int32)), .val (.ref a_WORD)] [(.ref a_WORD)])) rfl rfl (hb hby d1_21)
    have G19 : Go p e below A0 (T18.setTop (mkF m 24 #[.val (.int p0), .val (.ref a_KINDS), .val (.int (3 : Int32)), .val (.int (1 : Int32)), .val (.ref a_WORD)] [(.int (1 : Int32))])) := fun tq kq => G17 tq (st18 _ kq)
    have G20 : Go p e below A0 (T18.setTop (mkF m 25 #[.val (.int p0), .val (.ref a_KINDS), .val (.int (3 : Int32)), .val (.int (1 : Int32)), .val (.ref a_WORD)] [(.int p0), (.int (1 : Int32))])) := fun tq kq => G19 tq (by
      refine XS.iloadN X18.here hx rfl (hb hby d1_24) rfl ?_
      show Steps p.tables e below (T18.setTop (mkF m 25 #[.val (.int p0), .val (.ref a_KINDS), .val (.int (3 : Int32)), .val (.int (1 : Int32)), .val (.ref a_WORD)] [(.int p0), (.int (1 : Int32))])) _
      exact kq)
    by_cases hc21 : p0 = (1 : Int32)
    · have G22 : Go p e below A0 (T18.setTop (mkF m 30 #[.val (.int p0), .val (.ref a_KINDS), .val (.int (3 : Int32)), .val (.int (1 : Int32)), .val (.ref a_WORD)] [(.ref a_WORD)])) := fun tq kq => G20 tq (by
        refine XS.icmpNo X18.here hx rfl (hb hby d1_25) rfl (teq (Eq.symm hc21)).2 ?_
        show Steps p.tables e below (T18.setTop (mkF m 28 #[.val (.int p0), .val (.ref a_KINDS), .val (.int (3 : Int32)), .val (.int (1 : Int32)), .val (.ref a_WORD)] [])) _
        refine XS.aload X18.here hx rfl (hb hby d1_28) rfl rfl ?_
        show Steps p.tables e below (T18.setTop (mkF m 30 #[.val (.int p0), .val (.ref a_KINDS), .val (.int (3 : Int32)), .val (.int (1 : Int32)), .val (.ref a_WORD)] [(.ref a_WORD)])) _
        exact kq)
      obtain ⟨fs, hr, hrun, hended, hW, hsame⟩ := X18.leave (v := some (.ref a_WORD)) (fun h => by rw [Bd.returns] at h; cases h)
      refine ⟨_, _, (by rw [← hA0]; exact G22 _ (retOut X18 hx (t := (.object "com/example/subtree/subtree/index/NodeKind")) Bd.returns rfl (Or.inr (Or.inr (Or.inr (Or.inr ⟨rfl, rfl, rfl⟩)))) (hb hby d1_30) hr)), hrun, hended, _, _, rfl, ?_, ⟨_, rfl⟩, hW, hsame.mono (by decide) (by decide)⟩
      exact ⟨(by rw [← hr0]; simp [hc12, hc21]), N0, e18⟩
    · have G23 : Go p e below A0 (T18.setTop (mkF m 16 #[.val (.int p0), .val (.ref a_KINDS), .val (.int (3 : Int32)), .val (.int (2 : Int32)), .val (.ref a_WORD)] [(.int (2 : Int32)), (.ref a_KINDS)])) := fun tq kq => G20 tq (by
        refine XS.icmpYes X18.here hx rfl (pc0 := 25) (pc' := 31) rfl (hb hby d1_25) rfl (feq (fun q => hc21 q.symm)).2 (by decide) (by decide) ?_
        show Steps p.tables e below (T18.setTop (mkF m 31 #[.val (.int p0), .val (.ref a_KINDS), .val (.int (3 : Int32)), .val (.int (1 : Int32)), .val (.ref a_WORD)] [])) _
        refine XS.iinc X18.here hx rfl (hb hby d1_31) rfl (l' := #[.val (.int p0), .val (.ref a_KINDS), .val (.int (3 : Int32)), .val (.int ((1 : Int32) + (1 : Int32))), .val (.ref a_WORD)]) rfl ?_
        show Steps p.tables e below (T18.setTop (mkF m 34 #[.val (.int p0), .val (.ref a_KINDS), .val (.int (3 : Int32)), .val (.int ((1 : Int32) + (1 : Int32))), .val (.ref a_WORD)] [])) _
        rw [show ((1 : Int32) + (1 : Int32)) = (2 : Int32) from (by decide : ((1 : Int32) + (1 : Int32)) = (2 : Int32))]
        show Steps p.tables e below (T18.setTop (mkF m 34 #[.val (.int p0), .val (.ref a_KINDS), .val (.int (3 : Int32)), .val (.int (2 : Int32)), .val (.ref a_WORD)] [])) _
        refine XS.goto X18.here hx rfl (pc0 := 34) (pc' := 9) rfl (hb hby d1_34) (by decide) (by decide) ?_
        show Steps p.tables e below (T18.setTop (mkF m 9 #[.val (.int p0), .val (.ref a_KINDS), .val (.int (3 : Int32)), .val (.int (2 : Int32)), .val (.ref a_WORD)] [])) _
        refine XS.iloadN X18.here hx rfl (hb hby d1_9) rfl ?_
        show Steps p.tables e below (T18.setTop (mkF m 10 #[.val (.int p0), .val (.ref a_KINDS), .val (.int (3 : Int32)), .val (.int (2 : Int32)), .val (.ref a_WORD)] [(.int (2 : Int32))])) _
        refine XS.iloadN X18.here hx rfl (hb hby d1_10) rfl ?_
        show Steps p.tables e below (T18.setTop (mkF m 11 #[.val (.int p0), .val (.ref a_KINDS), .val (.int (3 : Int32)), .val (.int (2 : Int32)), .val (.ref a_WORD)] [(.int (3 : Int32)), (.int (2 : Int32))])) _
        refine XS.icmpNo X18.here hx rfl (hb hby d1_11) rfl (by decide) ?_
        show Steps p.tables e below (T18.setTop (mkF m 14 #[.val (.int p0), .val (.ref a_KINDS), .val (.int (3 : Int32)), .val (.int (2 : Int32)), .val (.ref a_WORD)] [])) _
        refine XS.aloadN X18.here hx rfl (hb hby d1_14) rfl rfl ?_
        show Steps p.tables e below (T18.setTop (mkF m 15 #[.val (.int p0), .val (.ref a_KINDS), .val (.int (3 : Int32)), .val (.int (2 : Int32)), .val (.ref a_WORD)] [(.ref a_KINDS)])) _
        refine XS.iloadN X18.here hx rfl (hb hby d1_15) rfl ?_
        show Steps p.tables e below (T18.setTop (mkF m 16 #[.val (.int p0), .val (.ref a_KINDS), .val (.int (3 : Int32)), .val (.int (2 : Int32)), .val (.ref a_WORD)] [(.int (2 : Int32)), (.ref a_KINDS)])) _
        exact kq)
      obtain ⟨cl24, Ar24, q24, S24, M24, H24, Gf24⟩ := id V_a_KINDS
      have hi25 : ¬ ((2 : Int32) < 0 ∨ cl24.slots.size ≤ ((2 : Int32)).toNatClampNeg) := (inb_of S24 ⟨by decide, by decide⟩)
      have G26 : Go p e below A0 (T18.setTop (mkF m 21 #[.val (.int p0), .val (.ref a_KINDS), .val (.int (3 : Int32)), .val (.int (2 : Int32)), .val (.ref a_ATTRIBUTE)] [(.ref a_ATTRIBUTE)])) := fun tq kq => G23 tq (by
        refine X18.aaload hx (j := (2 : Int32)) (v := (.ref a_ATTRIBUTE)) (by rw [e18]; exact Ar24.1) (State.isArrayOf_alike hZ.alike Ar24.2.1) rfl Ar24.2.2 hi25 (H24.at hi25 rfl) (g := (mkF m 16 #[.val (.int p0), .val (.ref a_KINDS), .val (.int (3 : Int32)), .val (.int (2 : Int32)), .val (.ref a_WORD)] [(.int (2 : Int32)), (.ref a_KINDS)])) rfl rfl (hb hby d1_16) _ ?_
        show Steps p.tables e below (T18.setTop (mkF m 17 #[.val (.int p0), .val (.ref a_KINDS), .val (.int (3 : Int32)), .val (.int (2 : Int32)), .val (.ref a_WORD)] [(.ref a_ATTRIBUTE)])) _
        refine XS.astore X18.here hx rfl (hb hby d1_17) rfl rfl (l' := #[.val (.int p0), .val (.ref a_KINDS), .val (.int (3 : Int32)), .val (.int (2 : Int32)), .val (.ref a_ATTRIBUTE)]) rfl ?_
        show Steps p.tables e below (T18.setTop (mkF m 19 #[.val (.int p0), .val (.ref a_KINDS), .val (.int (3 : Int32)), .val (.int (2 : Int32)), .val (.ref a_ATTRIBUTE)] [])) _
        refine XS.aload X18.here hx rfl (hb hby d1_19) rfl rfl ?_
        show Steps p.tables e below (T18.setTop (mkF m 21 #[.val (.int p0), .val (.ref a_KINDS), .val (.int (3 : Int32)), .val (.int (2 : Int32)), .val (.ref a_ATTRIBUTE)] [(.ref a_ATTRIBUTE)])) _
        exact kq)
      obtain ⟨T27, X27, e27, st27⟩ := getF X18 hx hZ hown (host := "") (Or.inl (hw _ (List.mem_of_getElem? (i := 8) rfl))) Via.refl e18 F_a_ATTRIBUTE_code (g := (mkF m 21 #[.val (.int p0), .val (.ref a_KINDS), .val (.int (3 : Int32)), .val (.int (2 : Int32)), .val (.ref a_ATTRIBUTE)] [(.ref a_ATTRIBUTE)])) rfl rfl (hb hby d1_21)
      have G28 : Go p e below A0 (T27.setTop (mkF m 24 #[.val (.int p0), .val (.ref a_KINDS), .val (.int (3 : Int32)), .val (.int (2 : Int32)), .val (.ref a_ATTRIBUTE)] [(.int (2 : Int32))])) := fun tq kq => G26 tq (st27 _ kq)
      have G29 : Go p e below A0 (T27.setTop (mkF m 25 #[.val (.int p0), .val (.ref a_KINDS), .val (.int (3 : Int32)), .val (.int (2 : Int32)), .val (.ref a_ATTRIBUTE)] [(.int p0), (.int (2 : Int32))])) := fun tq kq => G28 tq (by
        refine XS.iloadN X27.here hx rfl (hb hby d1_24) rfl ?_
        show Steps p.tables e below (T27.setTop (mkF m 25 #[.val (.int p0), .val (.ref a_KINDS), .val (.int (3 : Int32)), .val (.int (2 : Int32)), .val (.ref a_ATTRIBUTE)] [(.int p0), (.int (2 : Int32))])) _
        exact kq)
      by_cases hc30 : p0 = (2 : Int32)
      · have G31 : Go p e below A0 (T27.setTop (mkF m 30 #[.val (.int p0), .val (.ref a_KINDS), .val (.int (3 : Int32)), .val (.int (2 : Int32)), .val (.ref a_ATTRIBUTE)] [(.ref a_ATTRIBUTE)])) := fun tq kq => G29 tq (by
          refine XS.icmpNo X27.here hx rfl (hb hby d1_25) rfl (teq (Eq.symm hc30)).2 ?_
          show Steps p.tables e below (T27.setTop (mkF m 28 #[.val (.int p0), .val (.ref a_KINDS), .val (.int (3 : Int32)), .val (.int (2 : Int32)), .val (.ref a_ATTRIBUTE)] [])) _
          refine XS.aload X27.here hx rfl (hb hby d1_28) rfl rfl ?_
          show Steps p.tables e below (T27.setTop (mkF m 30 #[.val (.int p0), .val (.ref a_KINDS), .val (.int (3 : Int32)), .val (.int (2 : Int32)), .val (.ref a_ATTRIBUTE)] [(.ref a_ATTRIBUTE)])) _
          exact kq)
        obtain ⟨fs, hr, hrun, hended, hW, hsame⟩ := X27.leave (v := some (.ref a_ATTRIBUTE)) (fun h => by rw [Bd.returns] at h; cases h)
        refine ⟨_, _, (by rw [← hA0]; exact G31 _ (retOut X27 hx (t := (.object "com/example/subtree/subtree/index/NodeKind")) Bd.returns rfl (Or.inr (Or.inr (Or.inr (Or.inr ⟨rfl, rfl, rfl⟩)))) (hb hby d1_30) hr)), hrun, hended, _, _, rfl, ?_, ⟨_, rfl⟩, hW, hsame.mono (by decide) (by decide)⟩
        exact ⟨(by rw [← hr0]; simp [hc12, hc21, hc30]), N0, e27⟩
      · have G32 : Go p e below A0 (T27.setTop (mkF m 38 #[.val (.int p0), .val (.ref a_KINDS), .val (.int (3 : Int32)), .val (.int (3 : Int32)), .val (.ref a_ATTRIBUTE)] [.null])) := fun tq kq => G29 tq (by
          refine XS.icmpYes X27.here hx rfl (pc0 := 25) (pc' := 31) rfl (hb hby d1_25) rfl (feq (fun q => hc30 q.symm)).2 (by decide) (by decide) ?_
          show Steps p.tables e below (T27.setTop (mkF m 31 #[.val (.int p0), .val (.ref a_KINDS), .val (.int (3 : Int32)), .val (.int (2 : Int32)), .val (.ref a_ATTRIBUTE)] [])) _
          refine XS.iinc X27.here hx rfl (hb hby d1_31) rfl (l' := #[.val (.int p0), .val (.ref a_KINDS), .val (.int (3 : Int32)), .val (.int ((2 : Int32) + (1 : Int32))), .val (.ref a_ATTRIBUTE)]) rfl ?_
          show Steps p.tables e below (T27.setTop (mkF m 34 #[.val (.int p0), .val (.ref a_KINDS), .val (.int (3 : Int32)), .val (.int ((2 : Int32) + (1 : Int32))), .val (.ref a_ATTRIBUTE)] [])) _
          rw [show ((2 : Int32) + (1 : Int32)) = (3 : Int32) from (by decide : ((2 : Int32) + (1 : Int32)) = (3 : Int32))]
          show Steps p.tables e below (T27.setTop (mkF m 34 #[.val (.int p0), .val (.ref a_KINDS), .val (.int (3 : Int32)), .val (.int (3 : Int32)), .val (.ref a_ATTRIBUTE)] [])) _
          refine XS.goto X27.here hx rfl (pc0 := 34) (pc' := 9) rfl (hb hby d1_34) (by decide) (by decide) ?_
          show Steps p.tables e below (T27.setTop (mkF m 9 #[.val (.int p0), .val (.ref a_KINDS), .val (.int (3 : Int32)), .val (.int (3 : Int32)), .val (.ref a_ATTRIBUTE)] [])) _
          refine XS.iloadN X27.here hx rfl (hb hby d1_9) rfl ?_
          show Steps p.tables e below (T27.setTop (mkF m 10 #[.val (.int p0), .val (.ref a_KINDS), .val (.int (3 : Int32)), .val (.int (3 : Int32)), .val (.ref a_ATTRIBUTE)] [(.int (3 : Int32))])) _
          refine XS.iloadN X27.here hx rfl (hb hby d1_10) rfl ?_
          show Steps p.tables e below (T27.setTop (mkF m 11 #[.val (.int p0), .val (.ref a_KINDS), .val (.int (3 : Int32)), .val (.int (3 : Int32)), .val (.ref a_ATTRIBUTE)] [(.int (3 : Int32)), (.int (3 : Int32))])) _
          refine XS.icmpYes X27.here hx rfl (pc0 := 11) (pc' := 37) rfl (hb hby d1_11) rfl (by decide) (by decide) (by decide) ?_
          show Steps p.tables e below (T27.setTop (mkF m 37 #[.val (.int p0), .val (.ref a_KINDS), .val (.int (3 : Int32)), .val (.int (3 : Int32)), .val (.ref a_ATTRIBUTE)] [])) _
          refine XS.aconstNull X27.here hx rfl (hb hby d1_37) ?_
          show Steps p.tables e below (T27.setTop (mkF m 38 #[.val (.int p0), .val (.ref a_KINDS), .val (.int (3 : Int32)), .val (.int (3 : Int32)), .val (.ref a_ATTRIBUTE)] [.null])) _
          exact kq)
        obtain ⟨fs, hr, hrun, hended, hW, hsame⟩ := X27.leave (v := some .null) (fun h => by rw [Bd.returns] at h; cases h)
        refine ⟨_, _, (by rw [← hA0]; exact G32 _ (retOut X27 hx (t := (.object "com/example/subtree/subtree/index/NodeKind")) Bd.returns rfl (Or.inr (Or.inr (Or.inr (Or.inr ⟨rfl, rfl, rfl⟩)))) (hb hby d1_38) hr)), hrun, hended, _, _, rfl, ?_, ⟨_, rfl⟩, hW, hsame.mono (by decide) (by decide)⟩
        exact ⟨(by rw [← hr0]; simp [hc12, hc21, hc30]), N0, e27⟩
set_option maxRecDepth 65536 in
set_option maxHeartbeats 40000000 in
theorem rm2 (l : Launch) (Z : State) (a0 : Array Value) (hw : ∀ d ∈ tables_1, d.before a0 Z = true) (ws : List Jvm.Cond) (a : Addr) (cd r : Int32) (h0 : Heap) (n0 : Nat) (Z0 : n0 ≤ h0.size) (F : Fld Z h0 a "com/example/subtree/subtree/index/NodeKind" "code" "B" (.int cd)) (hr0 : nar .byte cd = r) :
    MetFree l (⟨"com/example/subtree/subtree/index/NodeKind", "code", "()B"⟩ : MethodName) (head1 (Jvm.Cond.code (⟨"com/example/subtree/subtree/index/NodeKind", "code", "()B"⟩ : MethodName) prog_19_method_4_code 1 (some .byte) :: ws) ({ frames := 0, cells := 0, slots := 0, locals := 0 } : Room)) (fun aa UU => aa = #[(.ref a)] ∧ Z.Warmed39 UU.vm ∧ UU.heap = h0) (fun _ _ _ _ _ => True) (fun _ UU oo U' => ∃ v L, oo = .returned v ∧ Qr (.int r) h0 n0 v U'.heap L ∧ FrameEnd UU oo U' L ({ frames := 0, cells := 0, slots := 0, locals := 0 } : Room).cells ({ frames := 0, cells := 0, slots := 0, locals := 0 } : Room).slots) := by
  refine MetFree.of_bodySF (plainFor_of_name pn_0) hisR ?_
  intro p e s m args below meth c s₁ Bd hml0 hP hK
  obtain ⟨rfl, hZ, hh⟩ := hP
  have hx := Bd.exec
  have hby := Bd.bytes
  have hml : c.maxLocals = 1 := hml0
  have hown : s.vm.findClass "com/example/subtree/subtree/index/NodeKind" = some m.cls := findClass_of_methodNamed Bd.named
  have hnm := (name_of_methodNamed Bd.named Bd.method).1
  have X0 : Stand p l e ({ frames := 0, cells := 0, slots := 0, locals := 0 } : Room) s m #[(.ref a)] below meth c s₁ [] 0 0 := Stand.of_body Bd
  have e0 : s₁.heap = h0 := by rw [← hh, Bd.state]; rfl
  have N0 := Fr.nil n0
  obtain ⟨A0, hA0⟩ : ∃ A, A = s₁.setTop (entryFrame m #[(.ref a)] 1) := ⟨_, rfl⟩
  have G0 : Go p e below A0 (s₁.setTop (mkF m 0 #[.val (.ref a)] [])) := fun tq kq => by rw [hA0]; exact castTop (ef_rm2 m a) kq
  have G33 : Go p e below A0 (s₁.setTop (mkF m 1 #[.val (.ref a)] [(.ref a)])) := fun tq kq => G0 tq (by
    refine XS.aloadN X0.here hx rfl (hb hby d2_0) rfl rfl ?_
    show Steps p.tables e below (s₁.setTop (mkF m 1 #[.val (.ref a)] [(.ref a)])) _
    exact kq)
  obtain ⟨T34, X34, e34, st34⟩ := getF X0 hx hZ hown (host := "") (Or.inl (hw _ (List.mem_of_getElem? (i := 8) rfl))) Via.refl e0 F (g := (mkF m 1 #[.val (.ref a)] [(.ref a)])) rfl rfl (hb hby d2_1)
  have G35 : Go p e below A0 (T34.setTop (mkF m 4 #[.val (.ref a)] [(.int cd)])) := fun tq kq => G33 tq (st34 _ kq)
  obtain ⟨fs, hr, hrun, hended, hW, hsame⟩ := X34.leave (v := some (.int (nar .byte cd))) (fun h => by rw [Bd.returns] at h; cases h)
  refine ⟨_, _, (by rw [← hA0]; exact G35 _ (retN X34 hx (t := .byte) Bd.returns (by simp) (hb hby d2_4) hr)), hrun, hended, _, _, rfl, ?_, ⟨_, rfl⟩, hW, hsame.mono (by decide) (by decide)⟩
  exact ⟨(by rw [hr0]), N0, e34⟩
def Q0c (n0 : Nat) (v : Option Value) (L : List Loc) : Prop := v = some (.int 1) ∧ Fr n0 L
set_option maxRecDepth 65536 in
set_option maxHeartbeats 40000000 in
theorem rm0 (l : Launch) (Z : State) (a0 : Array Value) (hw : ∀ d ∈ tables_1, d.before a0 Z = true) (ws : List Jvm.Cond) (p0 : Int32) (a_ELEMENT a_WORD a_ATTRIBUTE a_KINDS : Addr) (kK : ClassId) (h0 : Heap) (n0 : Nat) (Z0 : n0 ≤ h0.size) (S_ELEMENT : Sta Z h0 "com/example/subtree/subtree/index/NodeKind" "ELEMENT" "Lcom/example/subtree/subtree/index/NodeKind;" (.ref a_ELEMENT)) (E_a_ELEMENT : Exa Z h0 a_ELEMENT "com/example/subtree/subtree/index/NodeKind") (S_KINDS : Sta Z h0 "com/example/subtree/subtree/index/NodeKind" "KINDS" "[Lcom/example/subtree/subtree/index/NodeKind;" (.ref a_KINDS)) (F_a_ELEMENT_code : Fld Z h0 a_ELEMENT "com/example/subtree/subtree/index/NodeKind" "code" "B" (.int (0 : Int32))) (S_WORD : Sta Z h0 "com/example/subtree/subtree/index/NodeKind" "WORD" "Lcom/example/subtree/subtree/index/NodeKind;" (.ref a_WORD)) (E_a_WORD : Exa Z h0 a_WORD "com/example/subtree/subtree/index/NodeKind") (F_a_WORD_code : Fld Z h0 a_WORD "com/example/subtree/subtree/index/NodeKind" "code" "B" (.int (1 : Int32))) (S_ATTRIBUTE : Sta Z h0 "com/example/subtree/subtree/index/NodeKind" "ATTRIBUTE" "Lcom/example/subtree/subtree/index/NodeKind;" (.ref a_ATTRIBUTE)) (E_a_ATTRIBUTE : Exa Z h0 a_ATTRIBUTE "com/example/subtree/subtree/index/NodeKind") (F_a_ATTRIBUTE_code : Fld Z h0 a_ATTRIBUTE "com/example/subtree/subtree/index/NodeKind" "code" "B" (.int (2 : Int32))) (V_a_KINDS : Arv Z h0 a_KINDS kK (.object "com/example/subtree/subtree/index/NodeKind") (3 : Int32) [(.ref a_ELEMENT), (.ref a_WORD), (.ref a_ATTRIBUTE)] .null) :
    MetFree l x (head1 (Jvm.Cond.code x code maxLocals ret :: ws) room_1) (fun aa UU => aa = #[(.int p0)] ∧ Z.Warmed39 UU.vm ∧ UU.heap = h0) (fun _ _ _ _ _ => True) (fun _ UU oo U' => ∃ v L, oo = .returned v ∧ Q0c n0 v L ∧ FrameEnd UU oo U' L room_1.cells room_1.slots) := by
  refine MetFree.of_bodySF (plainFor_of_name pn_1) hisR ?_
  intro p e s m args below meth c s₁ Bd hml0 hP hK
  obtain ⟨rfl, hZ, hh⟩ := hP
  have hx := Bd.exec
  have hby := Bd.bytes
  have hml : c.maxLocals = 4 := hml0
  have hown : s.vm.findClass "com/example/subtree/subtree/index/NodeKindOfCodePinLaw" = some m.cls := findClass_of_methodNamed Bd.named
  have hnm := (name_of_methodNamed Bd.named Bd.method).1
  have X0 : Stand p l e room_1 s m #[(.int p0)] below meth c s₁ [] 0 0 := Stand.of_body Bd
  have e0 : s₁.heap = h0 := by rw [← hh, Bd.state]; rfl
  have N0 := Fr.nil n0
  obtain ⟨A0, hA0⟩ : ∃ A, A = s₁.setTop (entryFrame m #[(.int p0)] maxLocals) := ⟨_, rfl⟩
  have G0 : Go p e below A0 (s₁.setTop (mkF m 0 #[.val (.int p0), .unset, .unset, .unset] [])) := fun tq kq => by rw [hA0]; exact castTop (ef_rm0 m p0) kq
  have G36 : Go p e below A0 (s₁.setTop (mkF m 4 #[.val (.int p0), .val (.int p0.toInt8.toInt32), .unset, .unset] [(.int p0.toInt8.toInt32)])) := fun tq kq => G0 tq (by
    refine XS.iloadN X0.here hx rfl (hb hby at_0) rfl ?_
    show Steps p.tables e below (s₁.setTop (mkF m 1 #[.val (.int p0), .unset, .unset, .unset] [(.int p0)])) _
    refine XS.i2b X0.here hx rfl (hb hby at_1) rfl ?_
    show Steps p.tables e below (s₁.setTop (mkF m 2 #[.val (.int p0), .unset, .unset, .unset] [(.int p0.toInt8.toInt32)])) _
    refine XS.istoreN X0.here hx rfl (hb hby at_2) rfl (l' := #[.val (.int p0), .val (.int p0.toInt8.toInt32), .unset, .unset]) rfl ?_
    show Steps p.tables e below (s₁.setTop (mkF m 3 #[.val (.int p0), .val (.int p0.toInt8.toInt32), .unset, .unset] [])) _
    refine XS.iloadN X0.here hx rfl (hb hby at_3) rfl ?_
    show Steps p.tables e below (s₁.setTop (mkF m 4 #[.val (.int p0), .val (.int p0.toInt8.toInt32), .unset, .unset] [(.int p0.toInt8.toInt32)])) _
    exact kq)
  by_cases hc37 : p0.toInt8.toInt32 = (0 : Int32)
  · have G38 : Go p e below A0 (s₁.setTop (mkF m 7 #[.val (.int p0), .val (.int p0.toInt8.toInt32), .unset, .unset] [])) := fun tq kq => G36 tq (by
      refine XS.ifNo X0.here hx rfl (hb hby at_4) rfl ((if0 _ _).trans (teq hc37).2) ?_
      show Steps p.tables e below (s₁.setTop (mkF m 7 #[.val (.int p0), .val (.int p0.toInt8.toInt32), .unset, .unset] [])) _
      exact kq)
    obtain ⟨T39, X39, e39, st39⟩ := getS2 X0 hx hZ hown (host := "") (Or.inl (hw _ (List.mem_of_getElem? (i := 0) rfl))) Via.refl e0 S_ELEMENT (g := (mkF m 7 #[.val (.int p0), .val (.int p0.toInt8.toInt32), .unset, .unset] [])) rfl (hb hby at_7)
    have G40 : Go p e below A0 (T39.setTop (mkF m 10 #[.val (.int p0), .val (.int p0.toInt8.toInt32), .unset, .unset] [(.ref a_ELEMENT)])) := fun tq kq => G38 tq (st39 _ kq)
    have G41 : Go p e below A0 (T39.setTop (mkF m 41 #[.val (.int p0), .val (.int p0.toInt8.toInt32), .val (.ref a_ELEMENT), .unset] [(.int p0.toInt8.toInt32)])) := fun tq kq => G40 tq (by
      refine XS.astoreN X39.here hx rfl (hb hby at_10) rfl rfl (l' := #[.val (.int p0), .val (.int p0.toInt8.toInt32), .val (.ref a_ELEMENT), .unset]) rfl ?_
      show Steps p.tables e below (T39.setTop (mkF m 11 #[.val (.int p0), .val (.int p0.toInt8.toInt32), .val (.ref a_ELEMENT), .unset] [])) _
      refine XS.goto X39.here hx rfl (pc0 := 11) (pc' := 40) rfl (hb hby at_11) (by decide) (by decide) ?_
      show Steps p.tables e below (T39.setTop (mkF m 40 #[.val (.int p0), .val (.int p0.toInt8.toInt32), .val (.ref a_ELEMENT), .unset] [])) _
      refine XS.iloadN X39.here hx rfl (hb hby at_40) rfl ?_
      show Steps p.tables e below (T39.setTop (mkF m 41 #[.val (.int p0), .val (.int p0.toInt8.toInt32), .val (.ref a_ELEMENT), .unset] [(.int p0.toInt8.toInt32)])) _
      exact kq)
    obtain ⟨_, _, ⟨T42, L42, k42, n42⟩, -, X42, ⟨Lc42, hQ42, l42, y42, z42⟩, st42⟩ := Jvm.LawKit.callS X39 hx (y := (⟨"com/example/subtree/subtree/index/NodeKind", "ofCode", "(B)Lcom/example/subtree/subtree/index/NodeKind;"⟩ : MethodName)) hown (mvT hZ (hw _ (List.mem_of_getElem? (i := 3) rfl))) (mvT hZ (hw _ (List.mem_of_getElem? (i := 4) rfl))) (mvT hZ (hw _ (List.mem_of_getElem? (i := 1) rfl))) (mvT hZ (hw _ (List.mem_of_getElem? (i := 5) rfl))) (by decide) (backOf (W := 0) (rm1 l Z a0 hw [] p0.toInt8.toInt32 a_ELEMENT a_WORD a_ATTRIBUTE a_KINDS kK (.ref a_ELEMENT) h0 n0 Z0 S_KINDS V_a_KINDS F_a_ELEMENT_code F_a_WORD_code F_a_ATTRIBUTE_code (by simp [hc37])) hZ (hw _ (List.mem_of_getElem? (i := 5) rfl)) (hw _ (List.mem_of_getElem? (i := 1) rfl)) (by decide) (by decide)) (g := (mkF m 41 #[.val (.int p0), .val (.int p0.toInt8.toInt32), .val (.ref a_ELEMENT), .unset] [(.int p0.toInt8.toInt32)])) rfl (by rw [hml]; rfl) (argsL := [(.int p0.toInt8.toInt32)]) (rest := []) (lenOf pd_0 rfl) rfl (by show 2 * 0 + _ ≤ _; exact Nat.le_of_eq rfl) (hb hby at_41) (fun _ _ => ⟨rfl, e39, (by decide : 0 + 0 ≤ _), (by decide : 0 + 0 ≤ _)⟩)
    dsimp only [Pt.U, Pt.locs, Pt.cells, Pt.slots] at X42 l42 y42 z42 st42 hQ42
    subst l42 y42 z42
    obtain ⟨rfl, N42q, e42⟩ := hQ42
    have N42 := Fr.app N0 N42q
    have G43 : Go p e below A0 (T42.setTop (mkF m 44 #[.val (.int p0), .val (.int p0.toInt8.toInt32), .val (.ref a_ELEMENT), .unset] [(.ref a_ELEMENT)])) := fun tq kq => G41 tq (st42 _ kq)
    have G44 : Go p e below A0 (T42.setTop (mkF m 57 #[.val (.int p0), .val (.int p0.toInt8.toInt32), .val (.ref a_ELEMENT), .val (.ref a_ELEMENT)] [(.ref a_ELEMENT)])) := fun tq kq => G43 tq (by
      refine XS.astoreN X42.here hx rfl (hb hby at_44) rfl rfl (l' := #[.val (.int p0), .val (.int p0.toInt8.toInt32), .val (.ref a_ELEMENT), .val (.ref a_ELEMENT)]) rfl ?_
      show Steps p.tables e below (T42.setTop (mkF m 45 #[.val (.int p0), .val (.int p0.toInt8.toInt32), .val (.ref a_ELEMENT), .val (.ref a_ELEMENT)] [])) _
      refine XS.aloadN X42.here hx rfl (hb hby at_45) rfl rfl ?_
      show Steps p.tables e below (T42.setTop (mkF m 46 #[.val (.int p0), .val (.int p0.toInt8.toInt32), .val (.ref a_ELEMENT), .val (.ref a_ELEMENT)] [(.ref a_ELEMENT)])) _
      refine XS.aloadN X42.here hx rfl (hb hby at_46) rfl rfl ?_
      show Steps p.tables e below (T42.setTop (mkF m 47 #[.val (.int p0), .val (.int p0.toInt8.toInt32), .val (.ref a_ELEMENT), .val (.ref a_ELEMENT)] [(.ref a_ELEMENT), (.ref a_ELEMENT)])) _
      refine Jvm.RoadKit.acmp (g := (mkF m 47 #[.val (.int p0), .val (.int p0.toInt8.toInt32), .val (.ref a_ELEMENT), .val (.ref a_ELEMENT)] [(.ref a_ELEMENT), (.ref a_ELEMENT)])) X42 hx rfl rfl rfl (pc0 := 47) (pc' := 52) (same := true) rfl (hb hby at_47) rfl (decide_eq_true rfl) (by decide) (by decide) ?_
      show Steps p.tables e below (T42.setTop (mkF m 52 #[.val (.int p0), .val (.int p0.toInt8.toInt32), .val (.ref a_ELEMENT), .val (.ref a_ELEMENT)] [])) _
      refine XS.aloadN X42.here hx rfl (hb hby at_52) rfl rfl ?_
      show Steps p.tables e below (T42.setTop (mkF m 53 #[.val (.int p0), .val (.int p0.toInt8.toInt32), .val (.ref a_ELEMENT), .val (.ref a_ELEMENT)] [(.ref a_ELEMENT)])) _
      refine XS.ifnullNo X42.here hx rfl (hb hby at_53) rfl ?_
      show Steps p.tables e below (T42.setTop (mkF m 56 #[.val (.int p0), .val (.int p0.toInt8.toInt32), .val (.ref a_ELEMENT), .val (.ref a_ELEMENT)] [])) _
      refine XS.aloadN X42.here hx rfl (hb hby at_56) rfl rfl ?_
      show Steps p.tables e below (T42.setTop (mkF m 57 #[.val (.int p0), .val (.int p0.toInt8.toInt32), .val (.ref a_ELEMENT), .val (.ref a_ELEMENT)] [(.ref a_ELEMENT)])) _
      exact kq)
    obtain ⟨cq45, kq45, q45a, q45b, q45c⟩ := isOf hZ e42 E_a_ELEMENT
    obtain ⟨_, _, ⟨T45, L45, k45, n45⟩, -, X45, ⟨Lc45, hQ45, l45, y45, z45⟩, st45⟩ := X42.virtualBack hx (y := (⟨"com/example/subtree/subtree/index/NodeKind", "code", "()B"⟩ : MethodName)) (z := (⟨"com/example/subtree/subtree/index/NodeKind", "code", "()B"⟩ : MethodName)) hown (mvT hZ (hw _ (List.mem_of_getElem? (i := 10) rfl))) (mvT hZ (hw _ (List.mem_of_getElem? (i := 11) rfl))) (notFace_of_selects (args := #[]) (mvT hZ (hw _ (List.mem_of_getElem? (i := 13) rfl)))) (mvT hZ (hw _ (List.mem_of_getElem? (i := 13) rfl))) (mvT hZ (hw _ (List.mem_of_getElem? (i := 12) rfl))) (by decide) (backOf (W := 0) (rm2 l Z a0 hw [] a_ELEMENT (0 : Int32) (0 : Int32) h0 n0 Z0 F_a_ELEMENT_code (by decide)) hZ (hw _ (List.mem_of_getElem? (i := 14) rfl)) (hw _ (List.mem_of_getElem? (i := 1) rfl)) (by decide) (by decide)) q45a q45c (g := (mkF m 57 #[.val (.int p0), .val (.int p0.toInt8.toInt32), .val (.ref a_ELEMENT), .val (.ref a_ELEMENT)] [(.ref a_ELEMENT)])) rfl (by rw [hml]; rfl) (Steps.refl _) (argsL := []) (rest := []) (lenOf pd_1 rfl) rfl (by show 2 * 0 + _ ≤ _; exact Nat.le_of_eq rfl) (hb hby at_57) (fun _ _ => ⟨rfl, e42, (by decide : 0 + 0 ≤ _), (by decide : 0 + 0 ≤ _)⟩)
    dsimp only [Pt.U, Pt.locs, Pt.cells, Pt.slots] at X45 l45 y45 z45 st45 hQ45
    subst l45 y45 z45
    obtain ⟨rfl, N45q, e45⟩ := hQ45
    have N45 := Fr.app N42 N45q
    have G46 : Go p e below A0 (T45.setTop (mkF m 60 #[.val (.int p0), .val (.int p0.toInt8.toInt32), .val (.ref a_ELEMENT), .val (.ref a_ELEMENT)] [(.int (0 : Int32))])) := fun tq kq => G44 tq (st45.trans kq)
    have G47 : Go p e below A0 (T45.setTop (mkF m 69 #[.val (.int p0), .val (.int p0.toInt8.toInt32), .val (.ref a_ELEMENT), .val (.ref a_ELEMENT)] [(.int (1 : Int32))])) := fun tq kq => G46 tq (by
      refine XS.iloadN X45.here hx rfl (hb hby at_60) rfl ?_
      show Steps p.tables e below (T45.setTop (mkF m 61 #[.val (.int p0), .val (.int p0.toInt8.toInt32), .val (.ref a_ELEMENT), .val (.ref a_ELEMENT)] [(.int p0.toInt8.toInt32), (.int (0 : Int32))])) _
      refine XS.icmpNo X45.here hx rfl (hb hby at_61) rfl (teq (Eq.symm hc37)).2 ?_
      show Steps p.tables e below (T45.setTop (mkF m 64 #[.val (.int p0), .val (.int p0.toInt8.toInt32), .val (.ref a_ELEMENT), .val (.ref a_ELEMENT)] [])) _
      refine XS.iconst X45.here hx rfl (hb hby at_64) ?_
      show Steps p.tables e below (T45.setTop (mkF m 65 #[.val (.int p0), .val (.int p0.toInt8.toInt32), .val (.ref a_ELEMENT), .val (.ref a_ELEMENT)] [(.int (1 : Int32))])) _
      refine XS.goto X45.here hx rfl (pc0 := 65) (pc' := 69) rfl (hb hby at_65) (by decide) (by decide) ?_
      show Steps p.tables e below (T45.setTop (mkF m 69 #[.val (.int p0), .val (.int p0.toInt8.toInt32), .val (.ref a_ELEMENT), .val (.ref a_ELEMENT)] [(.int (1 : Int32))])) _
      exact kq)
    obtain ⟨fs, hr, hrun, hended, hW, hsame⟩ := X45.leave (v := some (.int (nar .boolean (1 : Int32)))) (fun h => by rw [Bd.returns] at h; cases h)
    refine ⟨_, _, (by rw [← hA0]; exact G47 _ (retN X45 hx (t := .boolean) Bd.returns (by simp) (hb hby at_69) hr)), hrun, hended, _, _, rfl, ?_, ⟨_, rfl⟩, hW, hsame.mono (by decide) (by decide)⟩
    exact ⟨rfl, N45⟩
  · have G48 : Go p e below A0 (s₁.setTop (mkF m 16 #[.val (.int p0), .val (.int p0.toInt8.toInt32), .unset, .unset] [(.int (1 : Int32)), (.int p0.toInt8.toInt32)])) := fun tq kq => G36 tq (by
      refine XS.ifYes X0.here hx rfl (pc0 := 4) (pc' := 14) rfl (hb hby at_4) rfl ((if0 _ _).trans (feq hc37).2) (by decide) (by decide) ?_
      show Steps p.tables e below (s₁.setTop (mkF m 14 #[.val (.int p0), .val (.int p0.toInt8.toInt32), .unset, .unset] [])) _
      refine XS.iloadN X0.here hx rfl (hb hby at_14) rfl ?_
      show Steps p.tables e below (s₁.setTop (mkF m 15 #[.val (.int p0), .val (.int p0.toInt8.toInt32), .unset, .unset] [(.int p0.toInt8.toInt32)])) _
      refine XS.iconst X0.here hx rfl (hb hby at_15) ?_
      show Steps p.tables e below (s₁.setTop (mkF m 16 #[.val (.int p0), .val (.int p0.toInt8.toInt32), .unset, .unset] [(.int (1 : Int32)), (.int p0.toInt8.toInt32)])) _
      exact kq)
    by_cases hc49 : p0.toInt8.toInt32 = (1 : Int32)
    · have G50 : Go p e below A0 (s₁.setTop (mkF m 19 #[.val (.int p0), .val (.int p0.toInt8.toInt32), .unset, .unset] [])) := fun tq kq => G48 tq (by
        refine XS.icmpNo X0.here hx rfl (hb hby at_16) rfl (teq hc49).2 ?_
        show Steps p.tables e below (s₁.setTop (mkF m 19 #[.val (.int p0), .val (.int p0.toInt8.toInt32), .unset, .unset] [])) _
        exact kq)
      obtain ⟨T51, X51, e51, st51⟩ := getS2 X0 hx hZ hown (host := "") (Or.inl (hw _ (List.mem_of_getElem? (i := 18) rfl))) Via.refl e0 S_WORD (g := (mkF m 19 #[.val (.int p0), .val (.int p0.toInt8.toInt32), .unset, .unset] [])) rfl (hb hby at_19)
      have G52 : Go p e below A0 (T51.setTop (mkF m 22 #[.val (.int p0), .val (.int p0.toInt8.toInt32), .unset, .unset] [(.ref a_WORD)])) := fun tq kq => G50 tq (st51 _ kq)
      have G53 : Go p e below A0 (T51.setTop (mkF m 41 #[.val (.int p0), .val (.int p0.toInt8.toInt32), .val (.ref a_WORD), .unset] [(.int p0.toInt8.toInt32)])) := fun tq kq => G52 tq (by
        refine XS.astoreN X51.here hx rfl (hb hby at_22) rfl rfl (l' := #[.val (.int p0), .val (.int p0.toInt8.toInt32), .val (.ref a_WORD), .unset]) rfl ?_
        show Steps p.tables e below (T51.setTop (mkF m 23 #[.val (.int p0), .val (.int p0.toInt8.toInt32), .val (.ref a_WORD), .unset] [])) _
        refine XS.goto X51.here hx rfl (pc0 := 23) (pc' := 40) rfl (hb hby at_23) (by decide) (by decide) ?_
        show Steps p.tables e below (T51.setTop (mkF m 40 #[.val (.int p0), .val (.int p0.toInt8.toInt32), .val (.ref a_WORD), .unset] [])) _
        refine XS.iloadN X51.here hx rfl (hb hby at_40) rfl ?_
        show Steps p.tables e below (T51.setTop (mkF m 41 #[.val (.int p0), .val (.int p0.toInt8.toInt32), .val (.ref a_WORD), .unset] [(.int p0.toInt8.toInt32)])) _
        exact kq)
      obtain ⟨_, _, ⟨T54, L54, k54, n54⟩, -, X54, ⟨Lc54, hQ54, l54, y54, z54⟩, st54⟩ := Jvm.LawKit.callS X51 hx (y := (⟨"com/example/subtree/subtree/index/NodeKind", "ofCode", "(B)Lcom/example/subtree/subtree/index/NodeKind;"⟩ : MethodName)) hown (mvT hZ (hw _ (List.mem_of_getElem? (i := 3) rfl))) (mvT hZ (hw _ (List.mem_of_getElem? (i := 4) rfl))) (mvT hZ (hw _ (List.mem_of_getElem? (i := 1) rfl))) (mvT hZ (hw _ (List.mem_of_getElem? (i := 5) rfl))) (by decide) (backOf (W := 0) (rm1 l Z a0 hw [] p0.toInt8.toInt32 a_ELEMENT a_WORD a_ATTRIBUTE a_KINDS kK (.ref a_WORD) h0 n0 Z0 S_KINDS V_a_KINDS F_a_ELEMENT_code F_a_WORD_code F_a_ATTRIBUTE_code (by simp [hc37, hc49])) hZ (hw _ (List.mem_of_getElem? (i := 5) rfl)) (hw _ (List.mem_of_getElem? (i := 1) rfl)) (by decide) (by decide)) (g := (mkF m 41 #[.val (.int p0), .val (.int p0.toInt8.toInt32), .val (.ref a_WORD), .unset] [(.int p0.toInt8.toInt32)])) rfl (by rw [hml]; rfl) (argsL := [(.int p0.toInt8.toInt32)]) (rest := []) (lenOf pd_0 rfl) rfl (by show 2 * 0 + _ ≤ _; exact Nat.le_of_eq rfl) (hb hby at_41) (fun _ _ => ⟨rfl, e51, (by decide : 0 + 0 ≤ _), (by decide : 0 + 0 ≤ _)⟩)
      dsimp only [Pt.U, Pt.locs, Pt.cells, Pt.slots] at X54 l54 y54 z54 st54 hQ54
      subst l54 y54 z54
      obtain ⟨rfl, N54q, e54⟩ := hQ54
      have N54 := Fr.app N0 N54q
      have G55 : Go p e below A0 (T54.setTop (mkF m 44 #[.val (.int p0), .val (.int p0.toInt8.toInt32), .val (.ref a_WORD), .unset] [(.ref a_WORD)])) := fun tq kq => G53 tq (st54 _ kq)
      have G56 : Go p e below A0 (T54.setTop (mkF m 57 #[.val (.int p0), .val (.int p0.toInt8.toInt32), .val (.ref a_WORD), .val (.ref a_WORD)] [(.ref a_WORD)])) := fun tq kq => G55 tq (by
        refine XS.astoreN X54.here hx rfl (hb hby at_44) rfl rfl (l' := #[.val (.int p0), .val (.int p0.toInt8.toInt32), .val (.ref a_WORD), .val (.ref a_WORD)]) rfl ?_
        show Steps p.tables e below (T54.setTop (mkF m 45 #[.val (.int p0), .val (.int p0.toInt8.toInt32), .val (.ref a_WORD), .val (.ref a_WORD)] [])) _
        refine XS.aloadN X54.here hx rfl (hb hby at_45) rfl rfl ?_
        show Steps p.tables e below (T54.setTop (mkF m 46 #[.val (.int p0), .val (.int p0.toInt8.toInt32), .val (.ref a_WORD), .val (.ref a_WORD)] [(.ref a_WORD)])) _
        refine XS.aloadN X54.here hx rfl (hb hby at_46) rfl rfl ?_
        show Steps p.tables e below (T54.setTop (mkF m 47 #[.val (.int p0), .val (.int p0.toInt8.toInt32), .val (.ref a_WORD), .val (.ref a_WORD)] [(.ref a_WORD), (.ref a_WORD)])) _
        refine Jvm.RoadKit.acmp (g := (mkF m 47 #[.val (.int p0), .val (.int p0.toInt8.toInt32), .val (.ref a_WORD), .val (.ref a_WORD)] [(.ref a_WORD), (.ref a_WORD)])) X54 hx rfl rfl rfl (pc0 := 47) (pc' := 52) (same := true) rfl (hb hby at_47) rfl (decide_eq_true rfl) (by decide) (by decide) ?_
        show Steps p.tables e below (T54.setTop (mkF m 52 #[.val (.int p0), .val (.int p0.toInt8.toInt32), .val (.ref a_WORD), .val (.ref a_WORD)] [])) _
        refine XS.aloadN X54.here hx rfl (hb hby at_52) rfl rfl ?_
        show Steps p.tables e below (T54.setTop (mkF m 53 #[.val (.int p0), .val (.int p0.toInt8.toInt32), .val (.ref a_WORD), .val (.ref a_WORD)] [(.ref a_WORD)])) _
        refine XS.ifnullNo X54.here hx rfl (hb hby at_53) rfl ?_
        show Steps p.tables e below (T54.setTop (mkF m 56 #[.val (.int p0), .val (.int p0.toInt8.toInt32), .val (.ref a_WORD), .val (.ref a_WORD)] [])) _
        refine XS.aloadN X54.here hx rfl (hb hby at_56) rfl rfl ?_
        show Steps p.tables e below (T54.setTop (mkF m 57 #[.val (.int p0), .val (.int p0.toInt8.toInt32), .val (.ref a_WORD), .val (.ref a_WORD)] [(.ref a_WORD)])) _
        exact kq)
      obtain ⟨cq57, kq57, q57a, q57b, q57c⟩ := isOf hZ e54 E_a_WORD
      obtain ⟨_, _, ⟨T57, L57, k57, n57⟩, -, X57, ⟨Lc57, hQ57, l57, y57, z57⟩, st57⟩ := X54.virtualBack hx (y := (⟨"com/example/subtree/subtree/index/NodeKind", "code", "()B"⟩ : MethodName)) (z := (⟨"com/example/subtree/subtree/index/NodeKind", "code", "()B"⟩ : MethodName)) hown (mvT hZ (hw _ (List.mem_of_getElem? (i := 10) rfl))) (mvT hZ (hw _ (List.mem_of_getElem? (i := 11) rfl))) (notFace_of_selects (args := #[]) (mvT hZ (hw _ (List.mem_of_getElem? (i := 13) rfl)))) (mvT hZ (hw _ (List.mem_of_getElem? (i := 13) rfl))) (mvT hZ (hw _ (List.mem_of_getElem? (i := 12) rfl))) (by decide) (backOf (W := 0) (rm2 l Z a0 hw [] a_WORD (1 : Int32) (1 : Int32) h0 n0 Z0 F_a_WORD_code (by decide)) hZ (hw _ (List.mem_of_getElem? (i := 14) rfl)) (hw _ (List.mem_of_getElem? (i := 1) rfl)) (by decide) (by decide)) q57a q57c (g := (mkF m 57 #[.val (.int p0), .val (.int p0.toInt8.toInt32), .val (.ref a_WORD), .val (.ref a_WORD)] [(.ref a_WORD)])) rfl (by rw [hml]; rfl) (Steps.refl _) (argsL := []) (rest := []) (lenOf pd_1 rfl) rfl (by show 2 * 0 + _ ≤ _; exact Nat.le_of_eq rfl) (hb hby at_57) (fun _ _ => ⟨rfl, e54, (by decide : 0 + 0 ≤ _), (by decide : 0 + 0 ≤ _)⟩)
      dsimp only [Pt.U, Pt.locs, Pt.cells, Pt.slots] at X57 l57 y57 z57 st57 hQ57
      subst l57 y57 z57
      obtain ⟨rfl, N57q, e57⟩ := hQ57
      have N57 := Fr.app N54 N57q
      have G58 : Go p e below A0 (T57.setTop (mkF m 60 #[.val (.int p0), .val (.int p0.toInt8.toInt32), .val (.ref a_WORD), .val (.ref a_WORD)] [(.int (1 : Int32))])) := fun tq kq => G56 tq (st57.trans kq)
      have G59 : Go p e below A0 (T57.setTop (mkF m 69 #[.val (.int p0), .val (.int p0.toInt8.toInt32), .val (.ref a_WORD), .val (.ref a_WORD)] [(.int (1 : Int32))])) := fun tq kq => G58 tq (by
        refine XS.iloadN X57.here hx rfl (hb hby at_60) rfl ?_
        show Steps p.tables e below (T57.setTop (mkF m 61 #[.val (.int p0), .val (.int p0.toInt8.toInt32), .val (.ref a_WORD), .val (.ref a_WORD)] [(.int p0.toInt8.toInt32), (.int (1 : Int32))])) _
        refine XS.icmpNo X57.here hx rfl (hb hby at_61) rfl (teq (Eq.symm hc49)).2 ?_
        show Steps p.tables e below (T57.setTop (mkF m 64 #[.val (.int p0), .val (.int p0.toInt8.toInt32), .val (.ref a_WORD), .val (.ref a_WORD)] [])) _
        refine XS.iconst X57.here hx rfl (hb hby at_64) ?_
        show Steps p.tables e below (T57.setTop (mkF m 65 #[.val (.int p0), .val (.int p0.toInt8.toInt32), .val (.ref a_WORD), .val (.ref a_WORD)] [(.int (1 : Int32))])) _
        refine XS.goto X57.here hx rfl (pc0 := 65) (pc' := 69) rfl (hb hby at_65) (by decide) (by decide) ?_
        show Steps p.tables e below (T57.setTop (mkF m 69 #[.val (.int p0), .val (.int p0.toInt8.toInt32), .val (.ref a_WORD), .val (.ref a_WORD)] [(.int (1 : Int32))])) _
        exact kq)
      obtain ⟨fs, hr, hrun, hended, hW, hsame⟩ := X57.leave (v := some (.int (nar .boolean (1 : Int32)))) (fun h => by rw [Bd.returns] at h; cases h)
      refine ⟨_, _, (by rw [← hA0]; exact G59 _ (retN X57 hx (t := .boolean) Bd.returns (by simp) (hb hby at_69) hr)), hrun, hended, _, _, rfl, ?_, ⟨_, rfl⟩, hW, hsame.mono (by decide) (by decide)⟩
      exact ⟨rfl, N57⟩
    · have G60 : Go p e below A0 (s₁.setTop (mkF m 28 #[.val (.int p0), .val (.int p0.toInt8.toInt32), .unset, .unset] [(.int (2 : Int32)), (.int p0.toInt8.toInt32)])) := fun tq kq => G48 tq (by
        refine XS.icmpYes X0.here hx rfl (pc0 := 16) (pc' := 26) rfl (hb hby at_16) rfl (feq hc49).2 (by decide) (by decide) ?_
        show Steps p.tables e below (s₁.setTop (mkF m 26 #[.val (.int p0), .val (.int p0.toInt8.toInt32), .unset, .unset] [])) _
        refine XS.iloadN X0.here hx rfl (hb hby at_26) rfl ?_
        show Steps p.tables e below (s₁.setTop (mkF m 27 #[.val (.int p0), .val (.int p0.toInt8.toInt32), .unset, .unset] [(.int p0.toInt8.toInt32)])) _
        refine XS.iconst X0.here hx rfl (hb hby at_27) ?_
        show Steps p.tables e below (s₁.setTop (mkF m 28 #[.val (.int p0), .val (.int p0.toInt8.toInt32), .unset, .unset] [(.int (2 : Int32)), (.int p0.toInt8.toInt32)])) _
        exact kq)
      by_cases hc61 : p0.toInt8.toInt32 = (2 : Int32)
      · have G62 : Go p e below A0 (s₁.setTop (mkF m 31 #[.val (.int p0), .val (.int p0.toInt8.toInt32), .unset, .unset] [])) := fun tq kq => G60 tq (by
          refine XS.icmpNo X0.here hx rfl (hb hby at_28) rfl (teq hc61).2 ?_
          show Steps p.tables e below (s₁.setTop (mkF m 31 #[.val (.int p0), .val (.int p0.toInt8.toInt32), .unset, .unset] [])) _
          exact kq)
        obtain ⟨T63, X63, e63, st63⟩ := getS2 X0 hx hZ hown (host := "") (Or.inl (hw _ (List.mem_of_getElem? (i := 17) rfl))) Via.refl e0 S_ATTRIBUTE (g := (mkF m 31 #[.val (.int p0), .val (.int p0.toInt8.toInt32), .unset, .unset] [])) rfl (hb hby at_31)
        have G64 : Go p e below A0 (T63.setTop (mkF m 34 #[.val (.int p0), .val (.int p0.toInt8.toInt32), .unset, .unset] [(.ref a_ATTRIBUTE)])) := fun tq kq => G62 tq (st63 _ kq)
        have G65 : Go p e below A0 (T63.setTop (mkF m 41 #[.val (.int p0), .val (.int p0.toInt8.toInt32), .val (.ref a_ATTRIBUTE), .unset] [(.int p0.toInt8.toInt32)])) := fun tq kq => G64 tq (by
          refine XS.astoreN X63.here hx rfl (hb hby at_34) rfl rfl (l' := #[.val (.int p0), .val (.int p0.toInt8.toInt32), .val (.ref a_ATTRIBUTE), .unset]) rfl ?_
          show Steps p.tables e below (T63.setTop (mkF m 35 #[.val (.int p0), .val (.int p0.toInt8.toInt32), .val (.ref a_ATTRIBUTE), .unset] [])) _
          refine XS.goto X63.here hx rfl (pc0 := 35) (pc' := 40) rfl (hb hby at_35) (by decide) (by decide) ?_
          show Steps p.tables e below (T63.setTop (mkF m 40 #[.val (.int p0), .val (.int p0.toInt8.toInt32), .val (.ref a_ATTRIBUTE), .unset] [])) _
          refine XS.iloadN X63.here hx rfl (hb hby at_40) rfl ?_
          show Steps p.tables e below (T63.setTop (mkF m 41 #[.val (.int p0), .val (.int p0.toInt8.toInt32), .val (.ref a_ATTRIBUTE), .unset] [(.int p0.toInt8.toInt32)])) _
          exact kq)
        obtain ⟨_, _, ⟨T66, L66, k66, n66⟩, -, X66, ⟨Lc66, hQ66, l66, y66, z66⟩, st66⟩ := Jvm.LawKit.callS X63 hx (y := (⟨"com/example/subtree/subtree/index/NodeKind", "ofCode", "(B)Lcom/example/subtree/subtree/index/NodeKind;"⟩ : MethodName)) hown (mvT hZ (hw _ (List.mem_of_getElem? (i := 3) rfl))) (mvT hZ (hw _ (List.mem_of_getElem? (i := 4) rfl))) (mvT hZ (hw _ (List.mem_of_getElem? (i := 1) rfl))) (mvT hZ (hw _ (List.mem_of_getElem? (i := 5) rfl))) (by decide) (backOf (W := 0) (rm1 l Z a0 hw [] p0.toInt8.toInt32 a_ELEMENT a_WORD a_ATTRIBUTE a_KINDS kK (.ref a_ATTRIBUTE) h0 n0 Z0 S_KINDS V_a_KINDS F_a_ELEMENT_code F_a_WORD_code F_a_ATTRIBUTE_code (by simp [hc37, hc49, hc61])) hZ (hw _ (List.mem_of_getElem? (i := 5) rfl)) (hw _ (List.mem_of_getElem? (i := 1) rfl)) (by decide) (by decide)) (g := (mkF m 41 #[.val (.int p0), .val (.int p0.toInt8.toInt32), .val (.ref a_ATTRIBUTE), .unset] [(.int p0.toInt8.toInt32)])) rfl (by rw [hml]; rfl) (argsL := [(.int p0.toInt8.toInt32)]) (rest := []) (lenOf pd_0 rfl) rfl (by show 2 * 0 + _ ≤ _; exact Nat.le_of_eq rfl) (hb hby at_41) (fun _ _ => ⟨rfl, e63, (by decide : 0 + 0 ≤ _), (by decide : 0 + 0 ≤ _)⟩)
        dsimp only [Pt.U, Pt.locs, Pt.cells, Pt.slots] at X66 l66 y66 z66 st66 hQ66
        subst l66 y66 z66
        obtain ⟨rfl, N66q, e66⟩ := hQ66
        have N66 := Fr.app N0 N66q
        have G67 : Go p e below A0 (T66.setTop (mkF m 44 #[.val (.int p0), .val (.int p0.toInt8.toInt32), .val (.ref a_ATTRIBUTE), .unset] [(.ref a_ATTRIBUTE)])) := fun tq kq => G65 tq (st66 _ kq)
        have G68 : Go p e below A0 (T66.setTop (mkF m 57 #[.val (.int p0), .val (.int p0.toInt8.toInt32), .val (.ref a_ATTRIBUTE), .val (.ref a_ATTRIBUTE)] [(.ref a_ATTRIBUTE)])) := fun tq kq => G67 tq (by
          refine XS.astoreN X66.here hx rfl (hb hby at_44) rfl rfl (l' := #[.val (.int p0), .val (.int p0.toInt8.toInt32), .val (.ref a_ATTRIBUTE), .val (.ref a_ATTRIBUTE)]) rfl ?_
          show Steps p.tables e below (T66.setTop (mkF m 45 #[.val (.int p0), .val (.int p0.toInt8.toInt32), .val (.ref a_ATTRIBUTE), .val (.ref a_ATTRIBUTE)] [])) _
          refine XS.aloadN X66.here hx rfl (hb hby at_45) rfl rfl ?_
          show Steps p.tables e below (T66.setTop (mkF m 46 #[.val (.int p0), .val (.int p0.toInt8.toInt32), .val (.ref a_ATTRIBUTE), .val (.ref a_ATTRIBUTE)] [(.ref a_ATTRIBUTE)])) _
          refine XS.aloadN X66.here hx rfl (hb hby at_46) rfl rfl ?_
          show Steps p.tables e below (T66.setTop (mkF m 47 #[.val (.int p0), .val (.int p0.toInt8.toInt32), .val (.ref a_ATTRIBUTE), .val (.ref a_ATTRIBUTE)] [(.ref a_ATTRIBUTE), (.ref a_ATTRIBUTE)])) _
          refine Jvm.RoadKit.acmp (g := (mkF m 47 #[.val (.int p0), .val (.int p0.toInt8.toInt32), .val (.ref a_ATTRIBUTE), .val (.ref a_ATTRIBUTE)] [(.ref a_ATTRIBUTE), (.ref a_ATTRIBUTE)])) X66 hx rfl rfl rfl (pc0 := 47) (pc' := 52) (same := true) rfl (hb hby at_47) rfl (decide_eq_true rfl) (by decide) (by decide) ?_
          show Steps p.tables e below (T66.setTop (mkF m 52 #[.val (.int p0), .val (.int p0.toInt8.toInt32), .val (.ref a_ATTRIBUTE), .val (.ref a_ATTRIBUTE)] [])) _
          refine XS.aloadN X66.here hx rfl (hb hby at_52) rfl rfl ?_
          show Steps p.tables e below (T66.setTop (mkF m 53 #[.val (.int p0), .val (.int p0.toInt8.toInt32), .val (.ref a_ATTRIBUTE), .val (.ref a_ATTRIBUTE)] [(.ref a_ATTRIBUTE)])) _
          refine XS.ifnullNo X66.here hx rfl (hb hby at_53) rfl ?_
          show Steps p.tables e below (T66.setTop (mkF m 56 #[.val (.int p0), .val (.int p0.toInt8.toInt32), .val (.ref a_ATTRIBUTE), .val (.ref a_ATTRIBUTE)] [])) _
          refine XS.aloadN X66.here hx rfl (hb hby at_56) rfl rfl ?_
          show Steps p.tables e below (T66.setTop (mkF m 57 #[.val (.int p0), .val (.int p0.toInt8.toInt32), .val (.ref a_ATTRIBUTE), .val (.ref a_ATTRIBUTE)] [(.ref a_ATTRIBUTE)])) _
          exact kq)
        obtain ⟨cq69, kq69, q69a, q69b, q69c⟩ := isOf hZ e66 E_a_ATTRIBUTE
        obtain ⟨_, _, ⟨T69, L69, k69, n69⟩, -, X69, ⟨Lc69, hQ69, l69, y69, z69⟩, st69⟩ := X66.virtualBack hx (y := (⟨"com/example/subtree/subtree/index/NodeKind", "code", "()B"⟩ : MethodName)) (z := (⟨"com/example/subtree/subtree/index/NodeKind", "code", "()B"⟩ : MethodName)) hown (mvT hZ (hw _ (List.mem_of_getElem? (i := 10) rfl))) (mvT hZ (hw _ (List.mem_of_getElem? (i := 11) rfl))) (notFace_of_selects (args := #[]) (mvT hZ (hw _ (List.mem_of_getElem? (i := 13) rfl)))) (mvT hZ (hw _ (List.mem_of_getElem? (i := 13) rfl))) (mvT hZ (hw _ (List.mem_of_getElem? (i := 12) rfl))) (by decide) (backOf (W := 0) (rm2 l Z a0 hw [] a_ATTRIBUTE (2 : Int32) (2 : Int32) h0 n0 Z0 F_a_ATTRIBUTE_code (by decide)) hZ (hw _ (List.mem_of_getElem? (i := 14) rfl)) (hw _ (List.mem_of_getElem? (i := 1) rfl)) (by decide) (by decide)) q69a q69c (g := (mkF m 57 #[.val (.int p0), .val (.int p0.toInt8.toInt32), .val (.ref a_ATTRIBUTE), .val (.ref a_ATTRIBUTE)] [(.ref a_ATTRIBUTE)])) rfl (by rw [hml]; rfl) (Steps.refl _) (argsL := []) (rest := []) (lenOf pd_1 rfl) rfl (by show 2 * 0 + _ ≤ _; exact Nat.le_of_eq rfl) (hb hby at_57) (fun _ _ => ⟨rfl, e66, (by decide : 0 + 0 ≤ _), (by decide : 0 + 0 ≤ _)⟩)
        dsimp only [Pt.U, Pt.locs, Pt.cells, Pt.slots] at X69 l69 y69 z69 st69 hQ69
        subst l69 y69 z69
        obtain ⟨rfl, N69q, e69⟩ := hQ69
        have N69 := Fr.app N66 N69q
        have G70 : Go p e below A0 (T69.setTop (mkF m 60 #[.val (.int p0), .val (.int p0.toInt8.toInt32), .val (.ref a_ATTRIBUTE), .val (.ref a_ATTRIBUTE)] [(.int (2 : Int32))])) := fun tq kq => G68 tq (st69.trans kq)
        have G71 : Go p e below A0 (T69.setTop (mkF m 69 #[.val (.int p0), .val (.int p0.toInt8.toInt32), .val (.ref a_ATTRIBUTE), .val (.ref a_ATTRIBUTE)] [(.int (1 : Int32))])) := fun tq kq => G70 tq (by
          refine XS.iloadN X69.here hx rfl (hb hby at_60) rfl ?_
          show Steps p.tables e below (T69.setTop (mkF m 61 #[.val (.int p0), .val (.int p0.toInt8.toInt32), .val (.ref a_ATTRIBUTE), .val (.ref a_ATTRIBUTE)] [(.int p0.toInt8.toInt32), (.int (2 : Int32))])) _
          refine XS.icmpNo X69.here hx rfl (hb hby at_61) rfl (teq (Eq.symm hc61)).2 ?_
          show Steps p.tables e below (T69.setTop (mkF m 64 #[.val (.int p0), .val (.int p0.toInt8.toInt32), .val (.ref a_ATTRIBUTE), .val (.ref a_ATTRIBUTE)] [])) _
          refine XS.iconst X69.here hx rfl (hb hby at_64) ?_
          show Steps p.tables e below (T69.setTop (mkF m 65 #[.val (.int p0), .val (.int p0.toInt8.toInt32), .val (.ref a_ATTRIBUTE), .val (.ref a_ATTRIBUTE)] [(.int (1 : Int32))])) _
          refine XS.goto X69.here hx rfl (pc0 := 65) (pc' := 69) rfl (hb hby at_65) (by decide) (by decide) ?_
          show Steps p.tables e below (T69.setTop (mkF m 69 #[.val (.int p0), .val (.int p0.toInt8.toInt32), .val (.ref a_ATTRIBUTE), .val (.ref a_ATTRIBUTE)] [(.int (1 : Int32))])) _
          exact kq)
        obtain ⟨fs, hr, hrun, hended, hW, hsame⟩ := X69.leave (v := some (.int (nar .boolean (1 : Int32)))) (fun h => by rw [Bd.returns] at h; cases h)
        refine ⟨_, _, (by rw [← hA0]; exact G71 _ (retN X69 hx (t := .boolean) Bd.returns (by simp) (hb hby at_69) hr)), hrun, hended, _, _, rfl, ?_, ⟨_, rfl⟩, hW, hsame.mono (by decide) (by decide)⟩
        exact ⟨rfl, N69⟩
      · have G72 : Go p e below A0 (s₁.setTop (mkF m 41 #[.val (.int p0), .val (.int p0.toInt8.toInt32), .val .null, .unset] [(.int p0.toInt8.toInt32)])) := fun tq kq => G60 tq (by
          refine XS.icmpYes X0.here hx rfl (pc0 := 28) (pc' := 38) rfl (hb hby at_28) rfl (feq hc61).2 (by decide) (by decide) ?_
          show Steps p.tables e below (s₁.setTop (mkF m 38 #[.val (.int p0), .val (.int p0.toInt8.toInt32), .unset, .unset] [])) _
          refine XS.aconstNull X0.here hx rfl (hb hby at_38) ?_
          show Steps p.tables e below (s₁.setTop (mkF m 39 #[.val (.int p0), .val (.int p0.toInt8.toInt32), .unset, .unset] [.null])) _
          refine XS.astoreN X0.here hx rfl (hb hby at_39) rfl rfl (l' := #[.val (.int p0), .val (.int p0.toInt8.toInt32), .val .null, .unset]) rfl ?_
          show Steps p.tables e below (s₁.setTop (mkF m 40 #[.val (.int p0), .val (.int p0.toInt8.toInt32), .val .null, .unset] [])) _
          refine XS.iloadN X0.here hx rfl (hb hby at_40) rfl ?_
          show Steps p.tables e below (s₁.setTop (mkF m 41 #[.val (.int p0), .val (.int p0.toInt8.toInt32), .val .null, .unset] [(.int p0.toInt8.toInt32)])) _
          exact kq)
        obtain ⟨_, _, ⟨T73, L73, k73, n73⟩, -, X73, ⟨Lc73, hQ73, l73, y73, z73⟩, st73⟩ := Jvm.LawKit.callS X0 hx (y := (⟨"com/example/subtree/subtree/index/NodeKind", "ofCode", "(B)Lcom/example/subtree/subtree/index/NodeKind;"⟩ : MethodName)) hown (mvT hZ (hw _ (List.mem_of_getElem? (i := 3) rfl))) (mvT hZ (hw _ (List.mem_of_getElem? (i := 4) rfl))) (mvT hZ (hw _ (List.mem_of_getElem? (i := 1) rfl))) (mvT hZ (hw _ (List.mem_of_getElem? (i := 5) rfl))) (by decide) (backOf (W := 0) (rm1 l Z a0 hw [] p0.toInt8.toInt32 a_ELEMENT a_WORD a_ATTRIBUTE a_KINDS kK .null h0 n0 Z0 S_KINDS V_a_KINDS F_a_ELEMENT_code F_a_WORD_code F_a_ATTRIBUTE_code (by simp [hc37, hc49, hc61])) hZ (hw _ (List.mem_of_getElem? (i := 5) rfl)) (hw _ (List.mem_of_getElem? (i := 1) rfl)) (by decide) (by decide)) (g := (mkF m 41 #[.val (.int p0), .val (.int p0.toInt8.toInt32), .val .null, .unset] [(.int p0.toInt8.toInt32)])) rfl (by rw [hml]; rfl) (argsL := [(.int p0.toInt8.toInt32)]) (rest := []) (lenOf pd_0 rfl) rfl (by show 2 * 0 + _ ≤ _; exact Nat.le_of_eq rfl) (hb hby at_41) (fun _ _ => ⟨rfl, e0, (by decide : 0 + 0 ≤ _), (by decide : 0 + 0 ≤ _)⟩)
        dsimp only [Pt.U, Pt.locs, Pt.cells, Pt.slots] at X73 l73 y73 z73 st73 hQ73
        subst l73 y73 z73
        obtain ⟨rfl, N73q, e73⟩ := hQ73
        have N73 := Fr.app N0 N73q
        have G74 : Go p e below A0 (T73.setTop (mkF m 44 #[.val (.int p0), .val (.int p0.toInt8.toInt32), .val .null, .unset] [.null])) := fun tq kq => G72 tq (st73 _ kq)
        have G75 : Go p e below A0 (T73.setTop (mkF m 69 #[.val (.int p0), .val (.int p0.toInt8.toInt32), .val .null, .val .null] [(.int (1 : Int32))])) := fun tq kq => G74 tq (by
          refine XS.astoreN X73.here hx rfl (hb hby at_44) rfl rfl (l' := #[.val (.int p0), .val (.int p0.toInt8.toInt32), .val .null, .val .null]) rfl ?_
          show Steps p.tables e below (T73.setTop (mkF m 45 #[.val (.int p0), .val (.int p0.toInt8.toInt32), .val .null, .val .null] [])) _
          refine XS.aloadN X73.here hx rfl (hb hby at_45) rfl rfl ?_
          show Steps p.tables e below (T73.setTop (mkF m 46 #[.val (.int p0), .val (.int p0.toInt8.toInt32), .val .null, .val .null] [.null])) _
          refine XS.aloadN X73.here hx rfl (hb hby at_46) rfl rfl ?_
          show Steps p.tables e below (T73.setTop (mkF m 47 #[.val (.int p0), .val (.int p0.toInt8.toInt32), .val .null, .val .null] [.null, .null])) _
          refine Jvm.RoadKit.acmp (g := (mkF m 47 #[.val (.int p0), .val (.int p0.toInt8.toInt32), .val .null, .val .null] [.null, .null])) X73 hx rfl rfl rfl (pc0 := 47) (pc' := 52) (same := true) rfl (hb hby at_47) rfl (decide_eq_true rfl) (by decide) (by decide) ?_
          show Steps p.tables e below (T73.setTop (mkF m 52 #[.val (.int p0), .val (.int p0.toInt8.toInt32), .val .null, .val .null] [])) _
          refine XS.aloadN X73.here hx rfl (hb hby at_52) rfl rfl ?_
          show Steps p.tables e below (T73.setTop (mkF m 53 #[.val (.int p0), .val (.int p0.toInt8.toInt32), .val .null, .val .null] [.null])) _
          refine XS.ifnullYes X73.here hx rfl (pc0 := 53) (pc' := 64) rfl (hb hby at_53) rfl (by decide) (by decide) ?_
          show Steps p.tables e below (T73.setTop (mkF m 64 #[.val (.int p0), .val (.int p0.toInt8.toInt32), .val .null, .val .null] [])) _
          refine XS.iconst X73.here hx rfl (hb hby at_64) ?_
          show Steps p.tables e below (T73.setTop (mkF m 65 #[.val (.int p0), .val (.int p0.toInt8.toInt32), .val .null, .val .null] [(.int (1 : Int32))])) _
          refine XS.goto X73.here hx rfl (pc0 := 65) (pc' := 69) rfl (hb hby at_65) (by decide) (by decide) ?_
          show Steps p.tables e below (T73.setTop (mkF m 69 #[.val (.int p0), .val (.int p0.toInt8.toInt32), .val .null, .val .null] [(.int (1 : Int32))])) _
          exact kq)
        obtain ⟨fs, hr, hrun, hended, hW, hsame⟩ := X73.leave (v := some (.int (nar .boolean (1 : Int32)))) (fun h => by rw [Bd.returns] at h; cases h)
        refine ⟨_, _, (by rw [← hA0]; exact G75 _ (retN X73 hx (t := .boolean) Bd.returns (by simp) (hb hby at_69) hr)), hrun, hended, _, _, rfl, ?_, ⟨_, rfl⟩, hW, hsame.mono (by decide) (by decide)⟩
        exact ⟨rfl, N73⟩
set_option maxRecDepth 65536 in
set_option maxHeartbeats 40000000 in
theorem comes_1 {Post : Tables → Env → Array Value → State → Outcome → State → Prop} (hpost : ∀ tb e args s v u, (limb_1_1.after args s (.returned v) u = true ∧ limb_1_2.after args s (.returned v) u = true ∧ True) → FrameEnd s (.returned v) u (Jvm.fieldLocs frame_1_writes args s ++ Jvm.arrayLocs frame_1_arrays args s ++ Jvm.staticLocs frame_1_statics s) 0 0 → Post tb e args s (.returned v) u) :
    ArmFor flags0 classFile x code maxLocals ret World_1 tables_1 room_1 Calls_1 rest_1 Pre_1 Post := by
  intro l hfl _ _ p e ha hc hk s m args below hf hA hF happ hP
  obtain ⟨hcalls, hrest, hpre⟩ := hP
  obtain ⟨-, -, -, hnamed, -, -, -, hat⟩ := (Spec.applies_iff hf).mp happ
  obtain ⟨hg, hn⟩ := and_e (Cond.before_iff.mp (show (Jvm.Cond.and given_1 narrow_1).before args s = true from hpre))
  obtain ⟨g1, g2⟩ := and_e hg
  obtain ⟨w0, rfl⟩ : ∃ w0 : Value, args = #[w0] := by
    have hs : args.size = 1 := by simpa [Cond.value, given_1] using g1
    obtain ⟨L⟩ := args
    match L, hs with
    | [w0], _ => exact ⟨w0, rfl⟩
  have hw := fun d (hd : d ∈ tables_1) => atoms_spec (ws := Jvm.Cond.code x code maxLocals ret :: tables_1) hat d (List.mem_cons_of_mem _ hd)
  have hfit : Fit s := fun {y c} hc i hi => by
    obtain ⟨ha, rfl⟩ := Array.getElem?_eq_some_iff.mp hc
    have q := List.all_eq_true.mp ((Array.all_eq_true_iff_forall_mem.mp hF) _ (Array.getElem_mem ha)) i (List.mem_range.mpr hi)
    simpa [Array.getElem?_eq_getElem hi] using q
  obtain ⟨i0, ei0⟩ := is_v g2
  obtain rfl : w0 = (.int i0) := Option.some.inj ei0
  obtain ⟨u1, u2⟩ := and_e hn
  obtain ⟨a_ELEMENT, ea_ELEMENT⟩ := exa_v u1
  have S_ELEMENT : Sta s s.heap "com/example/subtree/subtree/index/NodeKind" "ELEMENT" "Lcom/example/subtree/subtree/index/NodeKind;" (.ref a_ELEMENT) := Sta.start ea_ELEMENT (Or.inr ⟨(hw _ (List.mem_of_getElem? (i := 1) rfl)), (hw _ (List.mem_of_getElem? (i := 2) rfl))⟩)
  have E_a_ELEMENT : Exa s s.heap a_ELEMENT "com/example/subtree/subtree/index/NodeKind" := Exa.start ea_ELEMENT u1
  obtain ⟨u3, u4⟩ := and_e u2
  obtain ⟨a_KINDS, ea_KINDS⟩ := arr_v u3
  have S_KINDS : Sta s s.heap "com/example/subtree/subtree/index/NodeKind" "KINDS" "[Lcom/example/subtree/subtree/index/NodeKind;" (.ref a_KINDS) := Sta.start ea_KINDS (Or.inr ⟨(hw _ (List.mem_of_getElem? (i := 1) rfl)), (hw _ (List.mem_of_getElem? (i := 7) rfl))⟩)
  obtain ⟨cl_a_KINDS, Ar_a_KINDS⟩ := Arr.start ea_KINDS u3
  obtain ⟨u5, u6⟩ := and_e u4
  have q7 := own_eqI u5
  obtain ⟨u8, u9⟩ := and_e u6
  have q10 := own_eqR u8 ea_ELEMENT
  obtain ⟨u11, u12⟩ := and_e u9
  have q13 := own_eqI u11
  have F_a_ELEMENT_code : Fld s s.heap a_ELEMENT "com/example/subtree/subtree/index/NodeKind" "code" "B" (.int (0 : Int32)) := Fld.start ((fld_at ea_ELEMENT).symm.trans q13)
  obtain ⟨u14, u15⟩ := and_e u12
  obtain ⟨a_WORD, ea_WORD⟩ := exa_v u14
  have S_WORD : Sta s s.heap "com/example/subtree/subtree/index/NodeKind" "WORD" "Lcom/example/subtree/subtree/index/NodeKind;" (.ref a_WORD) := Sta.start ea_WORD (Or.inr ⟨(hw _ (List.mem_of_getElem? (i := 1) rfl)), (hw _ (List.mem_of_getElem? (i := 15) rfl))⟩)
  have E_a_WORD : Exa s s.heap a_WORD "com/example/subtree/subtree/index/NodeKind" := Exa.start ea_WORD u14
  obtain ⟨u16, u17⟩ := and_e u15
  have q18 := own_eqR u16 ea_WORD
  obtain ⟨u19, u20⟩ := and_e u17
  have q21 := own_eqI u19
  have F_a_WORD_code : Fld s s.heap a_WORD "com/example/subtree/subtree/index/NodeKind" "code" "B" (.int (1 : Int32)) := Fld.start ((fld_at ea_WORD).symm.trans q21)
  obtain ⟨u22, u23⟩ := and_e u20
  obtain ⟨a_ATTRIBUTE, ea_ATTRIBUTE⟩ := exa_v u22
  have S_ATTRIBUTE : Sta s s.heap "com/example/subtree/subtree/index/NodeKind" "ATTRIBUTE" "Lcom/example/subtree/subtree/index/NodeKind;" (.ref a_ATTRIBUTE) := Sta.start ea_ATTRIBUTE (Or.inr ⟨(hw _ (List.mem_of_getElem? (i := 1) rfl)), (hw _ (List.mem_of_getElem? (i := 16) rfl))⟩)
  have E_a_ATTRIBUTE : Exa s s.heap a_ATTRIBUTE "com/example/subtree/subtree/index/NodeKind" := Exa.start ea_ATTRIBUTE u22
  obtain ⟨u24, u25⟩ := and_e u23
  have q26 := own_eqR u24 ea_ATTRIBUTE
  have q27 := own_eqI u25
  have F_a_ATTRIBUTE_code : Fld s s.heap a_ATTRIBUTE "com/example/subtree/subtree/index/NodeKind" "code" "B" (.int (2 : Int32)) := Fld.start ((fld_at ea_ATTRIBUTE).symm.trans q27)
  have ql_a_KINDS := own_arv Ar_a_KINDS ea_KINDS q7
  have V_a_KINDS : Arv s s.heap a_KINDS cl_a_KINDS.cls (.object "com/example/subtree/subtree/index/NodeKind") (3 : Int32) [(.ref a_ELEMENT), (.ref a_WORD), (.ref a_ATTRIBUTE)] .null := Arv.start hfit Ar_a_KINDS ql_a_KINDS.1 ql_a_KINDS.2 (by decide) rfl ⟨(elem_in q10 ea_KINDS rfl Ar_a_KINDS.1).2, ⟨(elem_in q18 ea_KINDS rfl Ar_a_KINDS.1).2, ⟨(elem_in q26 ea_KINDS rfl Ar_a_KINDS.1).2, trivial⟩⟩⟩
  obtain ⟨n, o, h1, h2, h3, _, L, rfl, ⟨rfl, N⟩, hq⟩ := rm0 l s _ hw tables_1 i0 a_ELEMENT a_WORD a_ATTRIBUTE a_KINDS cl_a_KINDS.cls s.heap s.heap.size (Nat.le_refl _) S_ELEMENT E_a_ELEMENT S_KINDS F_a_ELEMENT_code S_WORD E_a_WORD F_a_WORD_code S_ATTRIBUTE E_a_ATTRIBUTE F_a_ATTRIBUTE_code V_a_KINDS p e ha hc hk s m _ below hf ((Spec.applies_iff_loose hf).mp happ).1 ⟨rfl, State.Warmed39.refl s, rfl⟩ trivial
  refine ⟨n, _, h1, h2, h3, hpost _ _ _ _ _ _ ⟨Cond.after_iff.mpr rfl, Cond.after_iff.mpr (eq_i res_at (Term.int_eval (1)) rfl), trivial⟩ ⟨hq.1, hq.2.1, (hq.2.2.sift fun y hy => Or.inr (N y hy)).mono (by decide) (by decide)⟩⟩
theorem main_1_1 : Claimed_1_1 := comes_1 fun _ _ _ _ _ _ h hF => ⟨h.1, hF⟩
theorem main_1_2 : Claimed_1_2 := comes_1 fun _ _ _ _ _ _ h hF => ⟨h.2.1, hF⟩
end Jvm.Pilot.@@N@@
namespace Jvm.Pilot.@@N@@
open Jvm Jvm.ClassFile Sem Op Lib Jvm.Free Jvm.Stand Jvm.Pilot.@@N@@.Jvm.D
/-! MADE BY PROGRAM (witnessworld.py) out of the Statement's table words and the real class files: 13 classes; the members and pool entries that the words name. The judged class is class 1, her method 1. -/
namespace start1
open Jvm.ClassFile
def u (s : String) : CpInfo := .utf8 (stringToUtf16 s)
/-- a pool by its gaps: so many unusable entries, then the entry; so many at the end -/
def gap : Nat → List CpInfo → List CpInfo
  | 0, r => r
  | n + 1, r => .unusable :: gap n r
def poolList (es : List (Nat × CpInfo)) (last : Nat) : List CpInfo := es.foldr (fun e r => gap e.1 (e.2 :: r)) (gap last [])
def pool (es : List (Nat × CpInfo)) (last : Nat) : Array CpInfo := ⟨poolList es last⟩
def fileOf (pool : Array CpInfo) (this : Nat) (attrs : Array Attribute := #[]) (ms : Array MethodInfo := #[]) (fl : Nat := 33) (sup : Nat := 0) (ifs : Array Nat := #[]) (fds : Array FieldInfo := #[]) : ClassFile where
  minorVersion := 0
  majorVersion := 65
  constantPool := pool
  accessFlags := fl
  thisClass := this
  superClass := sup
  interfaces := ifs
  fields := fds
  methods := ms
  attributes := attrs
def plain (name : String) (sup : Option ClassId) : Class where
  name := name
  kind := .ordinary
  loader := none
  accessFlags := 33
  super := sup
  interfaces := #[]
  cf := none
  fields := #[]
  methods := #[]
  instanceTypes := #[]
  staticTypes := #[]
  resolved := #[]
  callSites := []
  init := .initialized
  statics := none
  mirror := none

def pool0 : Array CpInfo := pool [(5, u "<init>"), (0, u "()V"), (1, .class_ 10), (1, u "java/lang/Object")] 113

def k0m0 : Method := { name := "<init>", desc := "()V", sig := { parameters := [], returnType := none }, accessFlags := 1, code := none }
/-- java/lang/Object -/
def k0 : Class := { plain "java/lang/Object" none with
  accessFlags := 33
  interfaces := #[]
  cf := some (fileOf pool0 8 #[] #[{ accessFlags := 1, nameIndex := 5, descriptorIndex := 6, attributes := #[] }] 33 0 #[] #[])
  fields := #[]
  methods := #[k0m0]
  instanceTypes := #[]
  staticTypes := #[]
  resolved := Array.replicate 124 none
  statics := none }

def pool1 : Array CpInfo := pool [(2, .class_ 4), (1, u "java/lang/Object"), (0, u "<init>"), (0, u "()V"), (0, .fieldref 8 9), (0, .class_ 10), (0, .nameAndType 11 12), (0, u "com/example/subtree/subtree/index/NodeKind"), (0, u "ELEMENT"), (0, u "Lcom/example/subtree/subtree/index/NodeKind;"), (0, .fieldref 8 14), (0, .nameAndType 15 12), (0, u "WORD"), (0, .fieldref 8 17), (0, .nameAndType 18 12), (0, u "ATTRIBUTE"), (0, .methodref 8 20), (0, .nameAndType 21 22), (0, u "ofCode"), (0, u "(B)Lcom/example/subtree/subtree/index/NodeKind;"), (0, .methodref 8 24), (0, .nameAndType 25 26), (0, u "code"), (0, u "()B"), (0, .class_ 28), (0, u "com/example/subtree/subtree/index/NodeKindOfCodePinLaw"), (2, u "law"), (0, u "(I)Z")] 3

def k1m0 : Method := { name := "<init>", desc := "()V", sig := { parameters := [], returnType := none }, accessFlags := 2, code := none }
def k1c1 : Code := { maxStack := 2, maxLocals := 4, code := code, exceptionTable := #[], attributes := #[] }
def k1m1 : Method := { name := "law", desc := "(I)Z", sig := { parameters := [.int], returnType := some .boolean }, accessFlags := 9, code := some k1c1 }
/-- com/example/subtree/subtree/index/NodeKindOfCodePinLaw -/
def k1 : Class := { plain "com/example/subtree/subtree/index/NodeKindOfCodePinLaw" (some 0) with
  accessFlags := 49
  interfaces := #[]
  cf := some (fileOf pool1 27 #[] #[{ accessFlags := 2, nameIndex := 5, descriptorIndex := 6, attributes := #[] }, { accessFlags := 9, nameIndex := 31, descriptorIndex := 32, attributes := #[] }] 49 2 #[] #[])
  fields := #[]
  methods := #[k1m0, k1m1]
  instanceTypes := #[]
  staticTypes := #[]
  resolved := Array.replicate 36 none
  statics := none }

def pool2 : Array CpInfo := pool [(1, .class_ 2), (0, u "java/lang/constant/Constable"), (0, .class_ 4), (0, u "java/lang/Object")] 6

/-- java/lang/constant/Constable -/
def k2 : Class := { plain "java/lang/constant/Constable" (some 0) with
  accessFlags := 1537
  interfaces := #[]
  cf := some (fileOf pool2 1 #[] #[] 1537 3 #[] #[])
  fields := #[]
  methods := #[]
  instanceTypes := #[]
  staticTypes := #[]
  resolved := Array.replicate 11 none
  statics := none }

def pool3 : Array CpInfo := pool [(1, .class_ 2), (0, u "java/lang/Comparable"), (0, .class_ 4), (0, u "java/lang/Object")] 7

/-- java/lang/Comparable -/
def k3 : Class := { plain "java/lang/Comparable" (some 0) with
  accessFlags := 1537
  interfaces := #[]
  cf := some (fileOf pool3 1 #[] #[] 1537 3 #[] #[])
  fields := #[]
  methods := #[]
  instanceTypes := #[]
  staticTypes := #[]
  resolved := Array.replicate 12 none
  statics := none }

def pool4 : Array CpInfo := pool [(1, .class_ 2), (0, u "java/io/Serializable"), (0, .class_ 4), (0, u "java/lang/Object")] 2

/-- java/io/Serializable -/
def k4 : Class := { plain "java/io/Serializable" (some 0) with
  accessFlags := 1537
  interfaces := #[]
  cf := some (fileOf pool4 1 #[] #[] 1537 3 #[] #[])
  fields := #[]
  methods := #[]
  instanceTypes := #[]
  staticTypes := #[]
  resolved := Array.replicate 7 none
  statics := none }

def pool5 : Array CpInfo := pool [(2, .class_ 4), (1, u "java/lang/Enum"), (0, u "name"), (0, u "Ljava/lang/String;"), (2, u "ordinal"), (0, u "I"), (1, .class_ 14), (1, u "java/lang/Object"), (4, u "hash"), (86, .class_ 108), (1, u "java/lang/Enum$EnumDesc"), (2, .class_ 112), (0, u "java/lang/constant/Constable"), (0, .class_ 114), (0, u "java/lang/Comparable"), (0, .class_ 116), (0, u "java/io/Serializable")] 87

/-- java/lang/Enum -/
def k5 : Class := { plain "java/lang/Enum" (some 0) with
  accessFlags := 1057
  interfaces := #[2, 3, 4]
  cf := some (fileOf pool5 2 #[.nestMembers #[106]] #[] 1057 12 #[111, 113, 115] #[{ accessFlags := 18, nameIndex := 5, descriptorIndex := 6, attributes := #[] }, { accessFlags := 18, nameIndex := 9, descriptorIndex := 10, attributes := #[] }, { accessFlags := 2, nameIndex := 19, descriptorIndex := 10, attributes := #[] }])
  fields := #[{ name := "name", type := (.object "java/lang/String"), accessFlags := 18, slot := 0, constantValue := 0 }, { name := "ordinal", type := .int, accessFlags := 18, slot := 1, constantValue := 0 }, { name := "hash", type := .int, accessFlags := 2, slot := 2, constantValue := 0 }]
  methods := #[]
  instanceTypes := #[(.object "java/lang/String"), .int, .int]
  staticTypes := #[]
  resolved := Array.replicate 204 none
  statics := none }

def pool6 : Array CpInfo := pool [(1, .class_ 2), (0, u "com/example/subtree/subtree/index/NodeKind"), (2, u "ELEMENT"), (0, u "Lcom/example/subtree/subtree/index/NodeKind;"), (2, u "WORD"), (2, u "ATTRIBUTE"), (2, u "$VALUES"), (0, u "[Lcom/example/subtree/subtree/index/NodeKind;"), (6, .class_ 25), (1, u "java/lang/Enum"), (6, .fieldref 1 33), (0, .nameAndType 34 35), (0, u "code"), (0, u "B"), (0, .fieldref 1 37), (0, .nameAndType 38 16), (0, u "KINDS"), (19, u "()B"), (0, u "ofCode"), (0, u "(B)Lcom/example/subtree/subtree/index/NodeKind;")] 6

def k6c0 : Code := { maxStack := 1, maxLocals := 1, code := prog_19_method_4_code, exceptionTable := #[], attributes := #[] }
def k6m0 : Method := { name := "code", desc := "()B", sig := { parameters := [], returnType := some .byte }, accessFlags := 0, code := some k6c0 }
def k6c1 : Code := { maxStack := 2, maxLocals := 5, code := prog_19_method_5_code, exceptionTable := #[], attributes := #[] }
def k6m1 : Method := { name := "ofCode", desc := "(B)Lcom/example/subtree/subtree/index/NodeKind;", sig := { parameters := [.byte], returnType := some (.object "com/example/subtree/subtree/index/NodeKind") }, accessFlags := 8, code := some k6c1 }
/-- com/example/subtree/subtree/index/NodeKind -/
def k6 : Class := { plain "com/example/subtree/subtree/index/NodeKind" (some 5) with
  accessFlags := 16433
  interfaces := #[]
  cf := some (fileOf pool6 1 #[] #[{ accessFlags := 0, nameIndex := 34, descriptorIndex := 58, attributes := #[] }, { accessFlags := 8, nameIndex := 59, descriptorIndex := 60, attributes := #[] }] 16433 23 #[] #[{ accessFlags := 16409, nameIndex := 5, descriptorIndex := 6, attributes := #[] }, { accessFlags := 16409, nameIndex := 9, descriptorIndex := 6, attributes := #[] }, { accessFlags := 16409, nameIndex := 12, descriptorIndex := 6, attributes := #[] }, { accessFlags := 26, nameIndex := 38, descriptorIndex := 16, attributes := #[] }, { accessFlags := 18, nameIndex := 34, descriptorIndex := 35, attributes := #[] }, { accessFlags := 4122, nameIndex := 15, descriptorIndex := 16, attributes := #[] }])
  fields := #[{ name := "ELEMENT", type := (.object "com/example/subtree/subtree/index/NodeKind"), accessFlags := 16409, slot := 0, constantValue := 0 }, { name := "WORD", type := (.object "com/example/subtree/subtree/index/NodeKind"), accessFlags := 16409, slot := 1, constantValue := 0 }, { name := "ATTRIBUTE", type := (.object "com/example/subtree/subtree/index/NodeKind"), accessFlags := 16409, slot := 2, constantValue := 0 }, { name := "KINDS", type := (.array (.object "com/example/subtree/subtree/index/NodeKind")), accessFlags := 26, slot := 3, constantValue := 0 }, { name := "code", type := .byte, accessFlags := 18, slot := 3, constantValue := 0 }, { name := "$VALUES", type := (.array (.object "com/example/subtree/subtree/index/NodeKind")), accessFlags := 4122, slot := 4, constantValue := 0 }]
  methods := #[k6m0, k6m1]
  instanceTypes := #[(.object "java/lang/String"), .int, .int, .byte]
  staticTypes := #[(.object "com/example/subtree/subtree/index/NodeKind"), (.object "com/example/subtree/subtree/index/NodeKind"), (.object "com/example/subtree/subtree/index/NodeKind"), (.array (.object "com/example/subtree/subtree/index/NodeKind")), (.array (.object "com/example/subtree/subtree/index/NodeKind"))]
  resolved := Array.replicate 67 none
  statics := some 0 }

def pool7 : Array CpInfo := pool [(1, u "java/lang/Cloneable"), (0, .class_ 1), (0, u "java/lang/Object"), (0, .class_ 3)] 3

/-- java/lang/Cloneable -/
def k7 : Class := { plain "java/lang/Cloneable" (some 0) with
  accessFlags := 1537
  interfaces := #[]
  cf := some (fileOf pool7 2 #[] #[] 1537 4 #[] #[])
  fields := #[]
  methods := #[]
  instanceTypes := #[]
  staticTypes := #[]
  resolved := Array.replicate 8 none
  statics := none }

/-- the primitive byte -/
def k8 : Class := { plain "byte" none with kind := .primitive 'B', accessFlags := 0x411 }
/-- [B -/
def k9 : Class := { plain "[B" (some 0) with kind := .array 8 .byte, interfaces := #[7, 4], accessFlags := 1041 }

/-- the primitive int -/
def k10 : Class := { plain "int" none with kind := .primitive 'I', accessFlags := 0x411 }
/-- [I -/
def k11 : Class := { plain "[I" (some 0) with kind := .array 10 .int, interfaces := #[7, 4], accessFlags := 1041 }

/-- [Lcom/example/subtree/subtree/index/NodeKind; -/
def k12 : Class := { plain "[Lcom/example/subtree/subtree/index/NodeKind;" (some 0) with kind := .array 6 (.object "com/example/subtree/subtree/index/NodeKind"), interfaces := #[7, 4], accessFlags := 1041 }

def heap : Heap := #[{ cls := 6, slots := #[.ref 2, .ref 3, .ref 4, .ref 1, .null], vm := .statics 6 },
  { cls := 12, slots := #[.ref 2, .ref 3, .ref 4], vm := .none },
  { cls := 6, slots := #[.null, .int 0, .int 0, .int 0], vm := .none },
  { cls := 6, slots := #[.null, .int 1, .int 0, .int 1], vm := .none },
  { cls := 6, slots := #[.null, .int 2, .int 0, .int 2], vm := .none }]
def classes : Array Class := #[k0, k1, k2, k3, k4, k5, k6, k7, k8, k9, k10, k11, k12]
def interned : List (Array UInt16 × Addr) := []
def slotsUsed : Nat := 20
def theMethod : MethodId := ⟨1, 1⟩
def args0 : Array Value := #[.int 1]
def aboutOver (below : List Frame) : State where
  vm := { classes := classes, interned := interned.toArray }
  heap := heap
  slotsUsed := slotsUsed
  threads := #[{ frames := .invoking theMethod args0 :: below }]
def below0 : List Frame := [.native { method := ⟨0, 0⟩, args := #[] }]
def about1 : State := aboutOver below0
def p0 : Program := .bare "" "" ""
def e0 : Env := launch0.env 0 0 0
theorem w_frames : about1.frames = Frame.invoking theMethod args0 :: below0 := rfl
set_option maxRecDepth 65536 in
theorem w_args : argsFit about1.vm theMethod args0 = true := by decide +kernel
set_option maxRecDepth 65536 in
theorem w_heap : heapFits about1 = true := by decide +kernel
set_option maxRecDepth 65536 in
theorem w_runnable : about1.curStatus? = some .runnable := by decide +kernel
set_option maxRecDepth 65536 in
theorem w_alone : about1.alone = true := by decide +kernel
set_option maxRecDepth 65536 in
theorem w_named : about1.methodNamed? x = some theMethod := by decide +kernel
set_option maxRecDepth 65536 in
theorem w_hears : about1.hears theMethod below0 = true := by decide +kernel
set_option maxRecDepth 65536 in
theorem w_ripe : about1.ripe theMethod args0 below0 = true := by decide +kernel
theorem w_running : about1.status = .running := rfl
set_option maxRecDepth 65536 in
theorem w_room : about1.hasRoom e0.platform room_1 = true :=
  launch0.hasRoom_least _ room_1 (by decide +kernel) (by decide +kernel) (by decide +kernel) (by decide +kernel) (by decide +kernel) (by decide +kernel)
theorem allAtoms_all (ts : List Jvm.Cond) (a : Array Jvm.Value) (st : Jvm.State) : (allAtoms ts).before a st = ts.all (fun c => c.before a st) := by
  induction ts with
  | nil => rfl
  | cons c t ih =>
    show (Jvm.Cond.and c (allAtoms t)).before a st = _
    rw [Jvm.Cond.before_and, ih, List.all_cons]
def words1 : List Jvm.Cond := Jvm.Cond.code x code maxLocals ret :: tables_1
/-- a 'code' word, met by the world's own term for the bytes: nothing is compared byte by byte -/
theorem code_word {y : MethodName} {bytes : ByteArray} {mx : Nat} {rt : Option FieldType} {a : Array Value} {s : State} {m : MethodId} {meth : Method} {c : Code} (h1 : s.methodNamed? y = some m) (h2 : s.vm.method? m = some meth) (h3 : meth.code = some c) (h4 : c.code = bytes)
    (h5 : (c.maxLocals == mx && c.exceptionTable.isEmpty && decide (c.maxStack ≤ mostOperands) && decide (meth.sig.returnType = rt) && !meth.locks && decide (parseMethodDescriptor y.desc = some meth.sig)) = true) : (Jvm.Cond.code y bytes mx rt).before a s = true := by
  simp only [Bool.and_eq_true, beq_iff_eq, Bool.not_eq_true', decide_eq_true_eq] at h5
  obtain ⟨⟨⟨⟨⟨g1, g2⟩, g3⟩, g4⟩, g5⟩, g6⟩ := h5
  simp [Cond.before, Cond.holds, Cond.value, h1, h2, h3, h4, g1, g2, g3, g4, g5, g6]
def isCode : Jvm.Cond → Bool
  | .code _ _ _ _ => true
  | _ => false
theorem all_split {L : List Jvm.Cond} {P : Jvm.Cond → Bool} (h1 : L.all (fun c => isCode c || P c) = true) (h2 : ∀ c ∈ L.filter isCode, P c = true) : L.all P = true := by
  refine List.all_eq_true.mpr fun c hc => ?_
  have h := List.all_eq_true.mp h1 c hc
  rcases Bool.eq_false_or_eq_true (isCode c) with hi | hi
  · exact h2 c (List.mem_filter.mpr ⟨hc, hi⟩)
  · simpa [hi] using h
set_option maxRecDepth 65536 in
theorem w_c0 : (Jvm.Cond.code x code maxLocals ret).before args0 about1 = true := code_word (m := ⟨1, 1⟩) (meth := k1m1) (c := k1c1) (by decide +kernel) rfl rfl rfl (by decide +kernel)
set_option maxRecDepth 65536 in
theorem w_c1 : (Jvm.Cond.code ({ cls := "com/example/subtree/subtree/index/NodeKind", name := "ofCode", desc := "(B)Lcom/example/subtree/subtree/index/NodeKind;" } : Jvm.MethodName) prog_19_method_5_code (5 : Nat) (Option.some (Jvm.ClassFile.FieldType.object "com/example/subtree/subtree/index/NodeKind"))).before args0 about1 = true := code_word (m := ⟨6, 1⟩) (meth := k6m1) (c := k6c1) (by decide +kernel) rfl rfl rfl (by decide +kernel)
set_option maxRecDepth 65536 in
theorem w_c2 : (Jvm.Cond.code ({ cls := "com/example/subtree/subtree/index/NodeKind", name := "code", desc := "()B" } : Jvm.MethodName) prog_19_method_4_code (1 : Nat) (Option.some Jvm.ClassFile.FieldType.byte)).before args0 about1 = true := code_word (m := ⟨6, 0⟩) (meth := k6m0) (c := k6c0) (by decide +kernel) rfl rfl rfl (by decide +kernel)
def codes1 : List Jvm.Cond := [Jvm.Cond.code x code maxLocals ret, Jvm.Cond.code ({ cls := "com/example/subtree/subtree/index/NodeKind", name := "ofCode", desc := "(B)Lcom/example/subtree/subtree/index/NodeKind;" } : Jvm.MethodName) prog_19_method_5_code (5 : Nat) (Option.some (Jvm.ClassFile.FieldType.object "com/example/subtree/subtree/index/NodeKind")), Jvm.Cond.code ({ cls := "com/example/subtree/subtree/index/NodeKind", name := "code", desc := "()B" } : Jvm.MethodName) prog_19_method_4_code (1 : Nat) (Option.some Jvm.ClassFile.FieldType.byte)]
set_option maxRecDepth 65536 in
theorem codes_eq : words1.filter isCode = codes1 := rfl
theorem w_codes : ∀ c ∈ words1.filter isCode, c.before args0 about1 = true := by
  rw [codes_eq]
  intro c hc
  simp only [codes1, List.mem_cons, List.not_mem_nil, or_false] at hc
  rcases hc with rfl | rfl | rfl
  · exact w_c0
  · exact w_c1
  · exact w_c2
set_option maxRecDepth 65536 in
theorem w_t1 : words1.all (fun c => isCode c || c.before args0 about1) = true := by decide +kernel
theorem w_tables : (allAtoms (Jvm.Cond.code x code maxLocals ret :: tables_1)).before args0 about1 = true := by
  rw [allAtoms_all]
  show words1.all (fun c => c.before args0 about1) = true
  refine all_split ?_ w_codes
  rw [w_t1]
set_option maxRecDepth 65536 in
theorem w_case : (Jvm.Cond.and given_1 narrow_1).before args0 about1 = true := by decide +kernel
theorem w_applies : (headSpec (Jvm.Cond.code x code maxLocals ret :: tables_1) room_1).applies x e0.platform about1 = true :=
  (Spec.applies_iff w_frames).mpr ⟨w_running, w_runnable, w_alone, w_named, w_hears, w_ripe, w_room, w_tables⟩
theorem atStart : AtStart classFile x code maxLocals ret World_1 tables_1 room_1 Calls_1 rest_1 Pre_1 launch0 p0 e0 about1 theMethod args0 below0 :=
  ⟨lists_1, trivial, launch0.admits_env _ _ _, launch0.least_env, fairChoices_fair.cas, fairChoices_fair.clock, w_frames, w_args, w_heap, w_applies, trivial, trivial, w_case⟩
end start1
theorem witness_1 : WitnessClaimed_1 := ⟨start1.p0, start1.e0, start1.about1, start1.theMethod, start1.args0, start1.below0, start1.atStart⟩
end Jvm.Pilot.@@N@@
