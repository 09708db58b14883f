import JvmDerived
import JvmDerived.Pilot.@@N@@Statement
import JvmDerived.Pilot.@@N@@Code
set_option linter.unusedVariables false
set_option linter.unusedSimpArgs false
namespace Jvm.Pilot.@@N@@
open Jvm Jvm.ClassFile Sem Op Lib Jvm.Free Jvm.Stand Jvm.LawKit Jvm.RoadKit Bundle Jvm.Pilot.@@N@@.Jvm.D
/-- from A the run comes to B -/
def Go (p : Program) (e : Env) (below : List Frame) (A B : State) : Prop := ∀ t, Steps p.tables e below B t → Steps p.tables e below A t
def own_b (P : Prop) [Decidable P] : Int32 := if P then 1 else 0
theorem own_b1 {P : Prop} [Decidable P] (h : P) : ¬ own_b P = (0 : Int32) := by simp [own_b, h]
theorem own_b0 {P : Prop} [Decidable P] (h : ¬ P) : own_b P = (0 : Int32) := by simp [own_b, h]
theorem own_bt {P : Prop} [Decidable P] (h : P) : own_b P = (1 : Int32) := by simp [own_b, h]
theorem own_nb {P : Prop} [Decidable P] : nar .boolean (own_b P) = own_b P := by by_cases h : P <;> simp [own_b, h] <;> decide
theorem own_beq {P R : Prop} [Decidable P] [Decidable R] (h : P ↔ R) : own_b P = own_b R := by by_cases q : P <;> simp [own_b, q, ← h]
theorem d1_0 : decode prog_32_method_4_code 0 = .ok (.aload_n 0, 1) := by decide +kernel
theorem d1_1 : decode prog_32_method_4_code 1 = .ok (.getstatic 3, 3) := by decide +kernel
theorem d1_4 : decode prog_32_method_4_code 4 = .ok (.if_acmp .ne 9, 3) := by decide +kernel
theorem d1_7 : decode prog_32_method_4_code 7 = .ok (.getstatic 7, 3) := by decide +kernel
theorem d1_10 : decode prog_32_method_4_code 10 = .ok (.goto 6, 3) := by decide +kernel
theorem d1_13 : decode prog_32_method_4_code 13 = .ok (.getstatic 3, 3) := by decide +kernel
theorem d1_16 : decode prog_32_method_4_code 16 = .ok (.areturn, 1) := by decide +kernel
theorem pn_0 : plainName "com/example/tube2/tube2/conformance/Witness$Side" = true := by first | (simp [plainName, overriddenIn]; done) | decide +kernel
theorem pn_1 : plainName "com/example/tube2/tube2/conformance/SideOtherPinLaw" = true := by first | (simp [plainName, overriddenIn]; done) | decide +kernel
theorem pd_0 : parseMethodDescriptor "()Lcom/example/tube2/tube2/conformance/Witness$Side;" = some ⟨[], some (.object "com/example/tube2/tube2/conformance/Witness$Side")⟩ := by decide +kernel
theorem ef_rm1f (m : MethodId) (x0 : Addr) : entryFrame m #[(.ref x0)] 1 = mkF m 0 #[.val (.ref x0)] [] := by first | (simp [entryFrame, mkF, argsToLocals, Value.category]; done) | rfl
theorem ef_rm1s (m : MethodId) (x0 : Addr) : entryFrame m #[(.ref x0)] 1 = mkF m 0 #[.val (.ref x0)] [] := by first | (simp [entryFrame, mkF, argsToLocals, Value.category]; done) | rfl
theorem ef_rm0 (m : MethodId) (x0 : Int32) : entryFrame m #[(.int x0)] maxLocals = mkF m 0 #[.val (.int x0), .unset, .unset] [] := by first | (simp [entryFrame, mkF, argsToLocals, Value.category, maxLocals]; done) | rfl
theorem own_eqI {args : Array Value} {s : State} {t : Term} {k : Int32} (h : (Jvm.Cond.eq t (.int k)).value args s none s [] = some true) : t.eval args s none [] s = some (.int k) := by
  simp only [Cond.value, Term.eval] at h
  cases ht : t.eval args s none [] s with
  | none => simp [ht] at h
  | some x => cases x <;> simp [ht] at h ⊢; exact h
theorem own_eqR {args : Array Value} {s : State} {t u : Term} {b : Addr} (h : (Jvm.Cond.eq t u).value args s none s [] = some true) (hu : u.eval args s none [] s = some (.ref b)) : t.eval args s none [] s = some (.ref b) := by
  simp only [Cond.value, hu] at h
  cases ht : t.eval args s none [] s with
  | none => simp [ht] at h
  | some x => cases x <;> simp [ht] at h ⊢; exact h
def Qc (r : Addr) (h0 : Heap) (n0 : Nat) (v : Option Value) (h : Heap) (L : List Loc) : Prop := v = some (.ref r) ∧ Fr n0 L ∧ h = h0
set_option maxRecDepth 65536 in
set_option maxHeartbeats 40000000 in
theorem rm1f (l : Launch) (Z : State) (a0 : Array Value) (hw : ∀ d ∈ tables_1, d.before a0 Z = true) (ws : List Jvm.Cond) (a_FIRST a_SECOND : Addr) (h0 : Heap) (n0 : Nat) (Z0 : n0 ≤ h0.size) (S_FIRST : Sta Z h0 "com/example/tube2/tube2/conformance/Witness$Side" "FIRST" "Lcom/example/tube2/tube2/conformance/Witness$Side;" (.ref a_FIRST)) (S_SECOND : Sta Z h0 "com/example/tube2/tube2/conformance/Witness$Side" "SECOND" "Lcom/example/tube2/tube2/conformance/Witness$Side;" (.ref a_SECOND)) :
    MetFree l (⟨"com/example/tube2/tube2/conformance/Witness$Side", "other", "()Lcom/example/tube2/tube2/conformance/Witness$Side;"⟩ : MethodName) (head1 (Jvm.Cond.code (⟨"com/example/tube2/tube2/conformance/Witness$Side", "other", "()Lcom/example/tube2/tube2/conformance/Witness$Side;"⟩ : MethodName) prog_32_method_4_code 1 (some (.object "com/example/tube2/tube2/conformance/Witness$Side")) :: ws) ({ frames := 0, cells := 0, slots := 0, locals := 0 } : Room)) (fun aa UU => aa = #[(.ref a_FIRST)] ∧ Z.Warmed39 UU.vm ∧ UU.heap = h0) (fun _ _ _ _ _ => True) (fun _ UU oo U' => ∃ v L, oo = .returned v ∧ Qc a_SECOND h0 n0 v U'.heap L ∧ FrameEnd UU oo U' L ({ frames := 0, cells := 0, slots := 0, locals := 0 } : Room).cells ({ frames := 0, cells := 0, slots := 0, locals := 0 } : Room).slots) := by
  refine MetFree.of_bodySF (plainFor_of_name pn_0) hisR ?_
  intro p e s m args below meth c s₁ Bd hml0 hP hK
  obtain ⟨rfl, hZ, hh⟩ := hP
  have hx := Bd.exec
  have hby := Bd.bytes
  have hml : c.maxLocals = 1 := hml0
  have hown : s.vm.findClass "com/example/tube2/tube2/conformance/Witness$Side" = some m.cls := findClass_of_methodNamed Bd.named
  have hnm := (name_of_methodNamed Bd.named Bd.method).1
  have X0 : Stand p l e ({ frames := 0, cells := 0, slots := 0, locals := 0 } : Room) s m #[(.ref a_FIRST)] below meth c s₁ [] 0 0 := Stand.of_body Bd
  have e0 : s₁.heap = h0 := by rw [← hh, Bd.state]; rfl
  have N0 := Fr.nil n0
  obtain ⟨A0, hA0⟩ : ∃ A, A = s₁.setTop (entryFrame m #[(.ref a_FIRST)] 1) := ⟨_, rfl⟩
  have G0 : Go p e below A0 (s₁.setTop (mkF m 0 #[.val (.ref a_FIRST)] [])) := fun tq kq => by rw [hA0]; exact castTop (ef_rm1f m a_FIRST) kq
  have G1 : Go p e below A0 (s₁.setTop (mkF m 1 #[.val (.ref a_FIRST)] [(.ref a_FIRST)])) := fun tq kq => G0 tq (by
    refine XS.aloadN X0.here hx rfl (hb hby d1_0) rfl rfl ?_
    show Steps p.tables e below (s₁.setTop (mkF m 1 #[.val (.ref a_FIRST)] [(.ref a_FIRST)])) _
    exact kq)
  obtain ⟨T2, X2, e2, st2⟩ := getS2 X0 hx hZ hown (host := "") (Or.inl (hw _ (List.mem_of_getElem? (i := 8) rfl))) Via.refl e0 S_FIRST (g := (mkF m 1 #[.val (.ref a_FIRST)] [(.ref a_FIRST)])) rfl (hb hby d1_1)
  have G3 : Go p e below A0 (T2.setTop (mkF m 4 #[.val (.ref a_FIRST)] [(.ref a_FIRST), (.ref a_FIRST)])) := fun tq kq => G1 tq (st2 _ kq)
  have G4 : Go p e below A0 (T2.setTop (mkF m 7 #[.val (.ref a_FIRST)] [])) := fun tq kq => G3 tq (by
    refine Jvm.RoadKit.acmp (g := (mkF m 4 #[.val (.ref a_FIRST)] [(.ref a_FIRST), (.ref a_FIRST)])) X2 hx rfl rfl rfl (pc0 := 4) (pc' := 7) (same := true) rfl (hb hby d1_4) rfl (decide_eq_true rfl) (by decide) (by decide) ?_
    show Steps p.tables e below (T2.setTop (mkF m 7 #[.val (.ref a_FIRST)] [])) _
    exact kq)
  obtain ⟨T5, X5, e5, st5⟩ := getS2 X2 hx hZ hown (host := "") (Or.inl (hw _ (List.mem_of_getElem? (i := 9) rfl))) Via.refl e2 S_SECOND (g := (mkF m 7 #[.val (.ref a_FIRST)] [])) rfl (hb hby d1_7)
  have G6 : Go p e below A0 (T5.setTop (mkF m 10 #[.val (.ref a_FIRST)] [(.ref a_SECOND)])) := fun tq kq => G4 tq (st5 _ kq)
  have G7 : Go p e below A0 (T5.setTop (mkF m 16 #[.val (.ref a_FIRST)] [(.ref a_SECOND)])) := fun tq kq => G6 tq (by
    refine XS.goto X5.here hx rfl (pc0 := 10) (pc' := 16) rfl (hb hby d1_10) (by decide) (by decide) ?_
    show Steps p.tables e below (T5.setTop (mkF m 16 #[.val (.ref a_FIRST)] [(.ref a_SECOND)])) _
    exact kq)
  obtain ⟨fs, hr, hrun, hended, hW, hsame⟩ := X5.leave (v := some (.ref a_SECOND)) (fun h => by rw [Bd.returns] at h; cases h)
  refine ⟨_, _, (by rw [← hA0]; exact G7 _ (retOut X5 hx (t := (.object "com/example/tube2/tube2/conformance/Witness$Side")) Bd.returns rfl (Or.inr (Or.inr (Or.inr (Or.inr ⟨rfl, rfl, rfl⟩)))) (hb hby d1_16) hr)), hrun, hended, _, _, rfl, ?_, ⟨_, rfl⟩, hW, hsame.mono (by decide) (by decide)⟩
  exact ⟨rfl, N0, e5⟩
set_option maxRecDepth 65536 in
set_option maxHeartbeats 40000000 in
theorem rm1s (l : Launch) (Z : State) (a0 : Array Value) (hw : ∀ d ∈ tables_1, d.before a0 Z = true) (ws : List Jvm.Cond) (a_FIRST a_SECOND : Addr) (h0 : Heap) (n0 : Nat) (Z0 : n0 ≤ h0.size) (S_FIRST : Sta Z h0 "com/example/tube2/tube2/conformance/Witness$Side" "FIRST" "Lcom/example/tube2/tube2/conformance/Witness$Side;" (.ref a_FIRST)) (S_SECOND : Sta Z h0 "com/example/tube2/tube2/conformance/Witness$Side" "SECOND" "Lcom/example/tube2/tube2/conformance/Witness$Side;" (.ref a_SECOND)) (hne : ¬ (a_SECOND = a_FIRST)) :
    MetFree l (⟨"com/example/tube2/tube2/conformance/Witness$Side", "other", "()Lcom/example/tube2/tube2/conformance/Witness$Side;"⟩ : MethodName) (head1 (Jvm.Cond.code (⟨"com/example/tube2/tube2/conformance/Witness$Side", "other", "()Lcom/example/tube2/tube2/conformance/Witness$Side;"⟩ : MethodName) prog_32_method_4_code 1 (some (.object "com/example/tube2/tube2/conformance/Witness$Side")) :: ws) ({ frames := 0, cells := 0, slots := 0, locals := 0 } : Room)) (fun aa UU => aa = #[(.ref a_SECOND)] ∧ Z.Warmed39 UU.vm ∧ UU.heap = h0) (fun _ _ _ _ _ => True) (fun _ UU oo U' => ∃ v L, oo = .returned v ∧ Qc a_FIRST h0 n0 v U'.heap L ∧ FrameEnd UU oo U' L ({ frames := 0, cells := 0, slots := 0, locals := 0 } : Room).cells ({ frames := 0, cells := 0, slots := 0, locals := 0 } : Room).slots) := by
  refine MetFree.of_bodySF (plainFor_of_name pn_0) hisR ?_
  intro p e s m args below meth c s₁ Bd hml0 hP hK
  obtain ⟨rfl, hZ, hh⟩ := hP
  have hx := Bd.exec
  have hby := Bd.bytes
  have hml : c.maxLocals = 1 := hml0
  have hown : s.vm.findClass "com/example/tube2/tube2/conformance/Witness$Side" = some m.cls := findClass_of_methodNamed Bd.named
  have hnm := (name_of_methodNamed Bd.named Bd.method).1
  have X0 : Stand p l e ({ frames := 0, cells := 0, slots := 0, locals := 0 } : Room) s m #[(.ref a_SECOND)] below meth c s₁ [] 0 0 := Stand.of_body Bd
  have e0 : s₁.heap = h0 := by rw [← hh, Bd.state]; rfl
  have N0 := Fr.nil n0
  obtain ⟨A0, hA0⟩ : ∃ A, A = s₁.setTop (entryFrame m #[(.ref a_SECOND)] 1) := ⟨_, rfl⟩
  have G0 : Go p e below A0 (s₁.setTop (mkF m 0 #[.val (.ref a_SECOND)] [])) := fun tq kq => by rw [hA0]; exact castTop (ef_rm1s m a_SECOND) kq
  have G8 : Go p e below A0 (s₁.setTop (mkF m 1 #[.val (.ref a_SECOND)] [(.ref a_SECOND)])) := fun tq kq => G0 tq (by
    refine XS.aloadN X0.here hx rfl (hb hby d1_0) rfl rfl ?_
    show Steps p.tables e below (s₁.setTop (mkF m 1 #[.val (.ref a_SECOND)] [(.ref a_SECOND)])) _
    exact kq)
  obtain ⟨T9, X9, e9, st9⟩ := getS2 X0 hx hZ hown (host := "") (Or.inl (hw _ (List.mem_of_getElem? (i := 8) rfl))) Via.refl e0 S_FIRST (g := (mkF m 1 #[.val (.ref a_SECOND)] [(.ref a_SECOND)])) rfl (hb hby d1_1)
  have G10 : Go p e below A0 (T9.setTop (mkF m 4 #[.val (.ref a_SECOND)] [(.ref a_FIRST), (.ref a_SECOND)])) := fun tq kq => G8 tq (st9 _ kq)
  have G11 : Go p e below A0 (T9.setTop (mkF m 13 #[.val (.ref a_SECOND)] [])) := fun tq kq => G10 tq (by
    refine Jvm.RoadKit.acmp (g := (mkF m 4 #[.val (.ref a_SECOND)] [(.ref a_FIRST), (.ref a_SECOND)])) X9 hx rfl rfl rfl (pc0 := 4) (pc' := 13) (same := false) rfl (hb hby d1_4) rfl (decide_eq_false fun q => hne (Value.ref.inj q)) (by decide) (by decide) ?_
    show Steps p.tables e below (T9.setTop (mkF m 13 #[.val (.ref a_SECOND)] [])) _
    exact kq)
  obtain ⟨T12, X12, e12, st12⟩ := getS2 X9 hx hZ hown (host := "") (Or.inl (hw _ (List.mem_of_getElem? (i := 8) rfl))) Via.refl e9 S_FIRST (g := (mkF m 13 #[.val (.ref a_SECOND)] [])) rfl (hb hby d1_13)
  have G13 : Go p e below A0 (T12.setTop (mkF m 16 #[.val (.ref a_SECOND)] [(.ref a_FIRST)])) := fun tq kq => G11 tq (st12 _ kq)
  obtain ⟨fs, hr, hrun, hended, hW, hsame⟩ := X12.leave (v := some (.ref a_FIRST)) (fun h => by rw [Bd.returns] at h; cases h)
  refine ⟨_, _, (by rw [← hA0]; exact G13 _ (retOut X12 hx (t := (.object "com/example/tube2/tube2/conformance/Witness$Side")) Bd.returns rfl (Or.inr (Or.inr (Or.inr (Or.inr ⟨rfl, rfl, rfl⟩)))) (hb hby d1_16) hr)), hrun, hended, _, _, rfl, ?_, ⟨_, rfl⟩, hW, hsame.mono (by decide) (by decide)⟩
  exact ⟨rfl, N0, e12⟩
def Q0c (n0 : Nat) (v : Option Value) (L : List Loc) : Prop := v = some (.int 1) ∧ Fr n0 L
set_option maxRecDepth 65536 in
set_option maxHeartbeats 40000000 in
theorem rm0 (l : Launch) (Z : State) (a0 : Array Value) (hw : ∀ d ∈ tables_1, d.before a0 Z = true) (ws : List Jvm.Cond) (p0 : Int32) (a_FIRST a_SECOND : Addr) (h0 : Heap) (n0 : Nat) (Z0 : n0 ≤ h0.size) (S_FIRST : Sta Z h0 "com/example/tube2/tube2/conformance/Witness$Side" "FIRST" "Lcom/example/tube2/tube2/conformance/Witness$Side;" (.ref a_FIRST)) (E_a_FIRST : Exa Z h0 a_FIRST "com/example/tube2/tube2/conformance/Witness$Side") (S_SECOND : Sta Z h0 "com/example/tube2/tube2/conformance/Witness$Side" "SECOND" "Lcom/example/tube2/tube2/conformance/Witness$Side;" (.ref a_SECOND)) (E_a_SECOND : Exa Z h0 a_SECOND "com/example/tube2/tube2/conformance/Witness$Side") (hne : ¬ (a_SECOND = a_FIRST)) :
    MetFree l x (head1 (Jvm.Cond.code x code maxLocals ret :: ws) room_1) (fun aa UU => aa = #[(.int p0)] ∧ Z.Warmed39 UU.vm ∧ UU.heap = h0) (fun _ _ _ _ _ => True) (fun _ UU oo U' => ∃ v L, oo = .returned v ∧ Q0c n0 v L ∧ FrameEnd UU oo U' L room_1.cells room_1.slots) := by
  refine MetFree.of_bodySF (plainFor_of_name pn_1) hisR ?_
  intro p e s m args below meth c s₁ Bd hml0 hP hK
  obtain ⟨rfl, hZ, hh⟩ := hP
  have hx := Bd.exec
  have hby := Bd.bytes
  have hml : c.maxLocals = 3 := hml0
  have hown : s.vm.findClass "com/example/tube2/tube2/conformance/SideOtherPinLaw" = some m.cls := findClass_of_methodNamed Bd.named
  have hnm := (name_of_methodNamed Bd.named Bd.method).1
  have X0 : Stand p l e room_1 s m #[(.int p0)] below meth c s₁ [] 0 0 := Stand.of_body Bd
  have e0 : s₁.heap = h0 := by rw [← hh, Bd.state]; rfl
  have N0 := Fr.nil n0
  obtain ⟨A0, hA0⟩ : ∃ A, A = s₁.setTop (entryFrame m #[(.int p0)] maxLocals) := ⟨_, rfl⟩
  have G0 : Go p e below A0 (s₁.setTop (mkF m 0 #[.val (.int p0), .unset, .unset] [])) := fun tq kq => by rw [hA0]; exact castTop (ef_rm0 m p0) kq
  have G14 : Go p e below A0 (s₁.setTop (mkF m 3 #[.val (.int p0), .unset, .unset] [(.int (p0 &&& (1 : Int32)))])) := fun tq kq => G0 tq (by
    refine XS.iloadN X0.here hx rfl (hb hby at_0) rfl ?_
    show Steps p.tables e below (s₁.setTop (mkF m 1 #[.val (.int p0), .unset, .unset] [(.int p0)])) _
    refine XS.iconst X0.here hx rfl (hb hby at_1) ?_
    show Steps p.tables e below (s₁.setTop (mkF m 2 #[.val (.int p0), .unset, .unset] [(.int (1 : Int32)), (.int p0)])) _
    refine XS.iand X0.here hx rfl (hb hby at_2) rfl ?_
    show Steps p.tables e below (s₁.setTop (mkF m 3 #[.val (.int p0), .unset, .unset] [(.int (p0 &&& (1 : Int32)))])) _
    exact kq)
  by_cases hc15 : (p0 &&& (1 : Int32)) = (0 : Int32)
  · have G16 : Go p e below A0 (s₁.setTop (mkF m 12 #[.val (.int p0), .unset, .unset] [])) := fun tq kq => G14 tq (by
      refine XS.ifYes X0.here hx rfl (pc0 := 3) (pc' := 12) rfl (hb hby at_3) rfl ((if0 _ _).trans (teq hc15).1) (by decide) (by decide) ?_
      show Steps p.tables e below (s₁.setTop (mkF m 12 #[.val (.int p0), .unset, .unset] [])) _
      exact kq)
    obtain ⟨T17, X17, e17, st17⟩ := getS2 X0 hx hZ hown (host := "") (Or.inl (hw _ (List.mem_of_getElem? (i := 0) rfl))) Via.refl e0 S_FIRST (g := (mkF m 12 #[.val (.int p0), .unset, .unset] [])) rfl (hb hby at_12)
    have G18 : Go p e below A0 (T17.setTop (mkF m 15 #[.val (.int p0), .unset, .unset] [(.ref a_FIRST)])) := fun tq kq => G16 tq (st17 _ kq)
    have G19 : Go p e below A0 (T17.setTop (mkF m 17 #[.val (.int p0), .val (.ref a_FIRST), .unset] [(.ref a_FIRST)])) := fun tq kq => G18 tq (by
      refine XS.astoreN X17.here hx rfl (hb hby at_15) rfl rfl (l' := #[.val (.int p0), .val (.ref a_FIRST), .unset]) rfl ?_
      show Steps p.tables e below (T17.setTop (mkF m 16 #[.val (.int p0), .val (.ref a_FIRST), .unset] [])) _
      refine XS.aloadN X17.here hx rfl (hb hby at_16) rfl rfl ?_
      show Steps p.tables e below (T17.setTop (mkF m 17 #[.val (.int p0), .val (.ref a_FIRST), .unset] [(.ref a_FIRST)])) _
      exact kq)
    obtain ⟨cq20, kq20, q20a, q20b, q20c⟩ := isOf hZ e17 E_a_FIRST
    obtain ⟨_, _, ⟨T20, L20, k20, n20⟩, -, X20, ⟨Lc20, hQ20, l20, y20, z20⟩, st20⟩ := X17.virtualBack hx (y := (⟨"com/example/tube2/tube2/conformance/Witness$Side", "other", "()Lcom/example/tube2/tube2/conformance/Witness$Side;"⟩ : MethodName)) (z := (⟨"com/example/tube2/tube2/conformance/Witness$Side", "other", "()Lcom/example/tube2/tube2/conformance/Witness$Side;"⟩ : MethodName)) hown (mvT hZ (hw _ (List.mem_of_getElem? (i := 3) rfl))) (mvT hZ (hw _ (List.mem_of_getElem? (i := 4) rfl))) (notFace_of_selects (args := #[]) (mvT hZ (hw _ (List.mem_of_getElem? (i := 6) rfl)))) (mvT hZ (hw _ (List.mem_of_getElem? (i := 6) rfl))) (mvT hZ (hw _ (List.mem_of_getElem? (i := 5) rfl))) (by decide) (backOf (W := 0) (rm1f l Z a0 hw [] a_FIRST a_SECOND h0 n0 Z0 S_FIRST S_SECOND) hZ (hw _ (List.mem_of_getElem? (i := 7) rfl)) (hw _ (List.mem_of_getElem? (i := 1) rfl)) (by decide) (by decide)) q20a q20c (g := (mkF m 17 #[.val (.int p0), .val (.ref a_FIRST), .unset] [(.ref a_FIRST)])) rfl (by rw [hml]; rfl) (Steps.refl _) (argsL := []) (rest := []) (lenOf pd_0 rfl) rfl (by show 2 * 0 + _ ≤ _; exact Nat.le_of_eq rfl) (hb hby at_17) (fun _ _ => ⟨rfl, e17, (by decide : 0 + 0 ≤ _), (by decide : 0 + 0 ≤ _)⟩)
    dsimp only [Pt.U, Pt.locs, Pt.cells, Pt.slots] at X20 l20 y20 z20 st20 hQ20
    subst l20 y20 z20
    obtain ⟨rfl, N20q, e20⟩ := hQ20
    have N20 := Fr.app N0 N20q
    have G21 : Go p e below A0 (T20.setTop (mkF m 20 #[.val (.int p0), .val (.ref a_FIRST), .unset] [(.ref a_SECOND)])) := fun tq kq => G19 tq (st20.trans kq)
    have G22 : Go p e below A0 (T20.setTop (mkF m 35 #[.val (.int p0), .val (.ref a_FIRST), .val (.ref a_SECOND)] [(.ref a_SECOND)])) := fun tq kq => G21 tq (by
      refine XS.astoreN X20.here hx rfl (hb hby at_20) rfl rfl (l' := #[.val (.int p0), .val (.ref a_FIRST), .val (.ref a_SECOND)]) rfl ?_
      show Steps p.tables e below (T20.setTop (mkF m 21 #[.val (.int p0), .val (.ref a_FIRST), .val (.ref a_SECOND)] [])) _
      refine XS.aloadN X20.here hx rfl (hb hby at_21) rfl rfl ?_
      show Steps p.tables e below (T20.setTop (mkF m 22 #[.val (.int p0), .val (.ref a_FIRST), .val (.ref a_SECOND)] [(.ref a_SECOND)])) _
      refine XS.ifnonnullYes X20.here hx rfl (pc0 := 22) (pc' := 27) rfl (hb hby at_22) rfl (by decide) (by decide) ?_
      show Steps p.tables e below (T20.setTop (mkF m 27 #[.val (.int p0), .val (.ref a_FIRST), .val (.ref a_SECOND)] [])) _
      refine XS.aloadN X20.here hx rfl (hb hby at_27) rfl rfl ?_
      show Steps p.tables e below (T20.setTop (mkF m 28 #[.val (.int p0), .val (.ref a_FIRST), .val (.ref a_SECOND)] [(.ref a_SECOND)])) _
      refine XS.aloadN X20.here hx rfl (hb hby at_28) rfl rfl ?_
      show Steps p.tables e below (T20.setTop (mkF m 29 #[.val (.int p0), .val (.ref a_FIRST), .val (.ref a_SECOND)] [(.ref a_FIRST), (.ref a_SECOND)])) _
      refine Jvm.RoadKit.acmp (g := (mkF m 29 #[.val (.int p0), .val (.ref a_FIRST), .val (.ref a_SECOND)] [(.ref a_FIRST), (.ref a_SECOND)])) X20 hx rfl rfl rfl (pc0 := 29) (pc' := 34) (same := false) rfl (hb hby at_29) rfl (decide_eq_false fun q => hne (Value.ref.inj q)) (by decide) (by decide) ?_
      show Steps p.tables e below (T20.setTop (mkF m 34 #[.val (.int p0), .val (.ref a_FIRST), .val (.ref a_SECOND)] [])) _
      refine XS.aloadN X20.here hx rfl (hb hby at_34) rfl rfl ?_
      show Steps p.tables e below (T20.setTop (mkF m 35 #[.val (.int p0), .val (.ref a_FIRST), .val (.ref a_SECOND)] [(.ref a_SECOND)])) _
      exact kq)
    obtain ⟨cq23, kq23, q23a, q23b, q23c⟩ := isOf hZ e20 E_a_SECOND
    obtain ⟨_, _, ⟨T23, L23, k23, n23⟩, -, X23, ⟨Lc23, hQ23, l23, y23, z23⟩, st23⟩ := X20.virtualBack hx (y := (⟨"com/example/tube2/tube2/conformance/Witness$Side", "other", "()Lcom/example/tube2/tube2/conformance/Witness$Side;"⟩ : MethodName)) (z := (⟨"com/example/tube2/tube2/conformance/Witness$Side", "other", "()Lcom/example/tube2/tube2/conformance/Witness$Side;"⟩ : MethodName)) hown (mvT hZ (hw _ (List.mem_of_getElem? (i := 3) rfl))) (mvT hZ (hw _ (List.mem_of_getElem? (i := 4) rfl))) (notFace_of_selects (args := #[]) (mvT hZ (hw _ (List.mem_of_getElem? (i := 6) rfl)))) (mvT hZ (hw _ (List.mem_of_getElem? (i := 6) rfl))) (mvT hZ (hw _ (List.mem_of_getElem? (i := 5) rfl))) (by decide) (backOf (W := 0) (rm1s l Z a0 hw [] a_FIRST a_SECOND h0 n0 Z0 S_FIRST S_SECOND hne) hZ (hw _ (List.mem_of_getElem? (i := 7) rfl)) (hw _ (List.mem_of_getElem? (i := 1) rfl)) (by decide) (by decide)) q23a q23c (g := (mkF m 35 #[.val (.int p0), .val (.ref a_FIRST), .val (.ref a_SECOND)] [(.ref a_SECOND)])) rfl (by rw [hml]; rfl) (Steps.refl _) (argsL := []) (rest := []) (lenOf pd_0 rfl) rfl (by show 2 * 0 + _ ≤ _; exact Nat.le_of_eq rfl) (hb hby at_35) (fun _ _ => ⟨rfl, e20, (by decide : 0 + 0 ≤ _), (by decide : 0 + 0 ≤ _)⟩)
    dsimp only [Pt.U, Pt.locs, Pt.cells, Pt.slots] at X23 l23 y23 z23 st23 hQ23
    subst l23 y23 z23
    obtain ⟨rfl, N23q, e23⟩ := hQ23
    have N23 := Fr.app N20 N23q
    have G24 : Go p e below A0 (T23.setTop (mkF m 38 #[.val (.int p0), .val (.ref a_FIRST), .val (.ref a_SECOND)] [(.ref a_FIRST)])) := fun tq kq => G22 tq (st23.trans kq)
    have G25 : Go p e below A0 (T23.setTop (mkF m 47 #[.val (.int p0), .val (.ref a_FIRST), .val (.ref a_SECOND)] [(.int (1 : Int32))])) := fun tq kq => G24 tq (by
      refine XS.aloadN X23.here hx rfl (hb hby at_38) rfl rfl ?_
      show Steps p.tables e below (T23.setTop (mkF m 39 #[.val (.int p0), .val (.ref a_FIRST), .val (.ref a_SECOND)] [(.ref a_FIRST), (.ref a_FIRST)])) _
      refine Jvm.RoadKit.acmp (g := (mkF m 39 #[.val (.int p0), .val (.ref a_FIRST), .val (.ref a_SECOND)] [(.ref a_FIRST), (.ref a_FIRST)])) X23 hx rfl rfl rfl (pc0 := 39) (pc' := 42) (same := true) rfl (hb hby at_39) rfl (decide_eq_true rfl) (by decide) (by decide) ?_
      show Steps p.tables e below (T23.setTop (mkF m 42 #[.val (.int p0), .val (.ref a_FIRST), .val (.ref a_SECOND)] [])) _
      refine XS.iconst X23.here hx rfl (hb hby at_42) ?_
      show Steps p.tables e below (T23.setTop (mkF m 43 #[.val (.int p0), .val (.ref a_FIRST), .val (.ref a_SECOND)] [(.int (1 : Int32))])) _
      refine XS.goto X23.here hx rfl (pc0 := 43) (pc' := 47) rfl (hb hby at_43) (by decide) (by decide) ?_
      show Steps p.tables e below (T23.setTop (mkF m 47 #[.val (.int p0), .val (.ref a_FIRST), .val (.ref a_SECOND)] [(.int (1 : Int32))])) _
      exact kq)
    obtain ⟨fs, hr, hrun, hended, hW, hsame⟩ := X23.leave (v := some (.int (nar .boolean (1 : Int32)))) (fun h => by rw [Bd.returns] at h; cases h)
    refine ⟨_, _, (by rw [← hA0]; exact G25 _ (retN X23 hx (t := .boolean) Bd.returns (by simp) (hb hby at_47) hr)), hrun, hended, _, _, rfl, ?_, ⟨_, rfl⟩, hW, hsame.mono (by decide) (by decide)⟩
    exact ⟨rfl, N23⟩
  · have G26 : Go p e below A0 (s₁.setTop (mkF m 6 #[.val (.int p0), .unset, .unset] [])) := fun tq kq => G14 tq (by
      refine XS.ifNo X0.here hx rfl (hb hby at_3) rfl ((if0 _ _).trans (feq hc15).1) ?_
      show Steps p.tables e below (s₁.setTop (mkF m 6 #[.val (.int p0), .unset, .unset] [])) _
      exact kq)
    obtain ⟨T27, X27, e27, st27⟩ := getS2 X0 hx hZ hown (host := "") (Or.inl (hw _ (List.mem_of_getElem? (i := 11) rfl))) Via.refl e0 S_SECOND (g := (mkF m 6 #[.val (.int p0), .unset, .unset] [])) rfl (hb hby at_6)
    have G28 : Go p e below A0 (T27.setTop (mkF m 9 #[.val (.int p0), .unset, .unset] [(.ref a_SECOND)])) := fun tq kq => G26 tq (st27 _ kq)
    have G29 : Go p e below A0 (T27.setTop (mkF m 17 #[.val (.int p0), .val (.ref a_SECOND), .unset] [(.ref a_SECOND)])) := fun tq kq => G28 tq (by
      refine XS.goto X27.here hx rfl (pc0 := 9) (pc' := 15) rfl (hb hby at_9) (by decide) (by decide) ?_
      show Steps p.tables e below (T27.setTop (mkF m 15 #[.val (.int p0), .unset, .unset] [(.ref a_SECOND)])) _
      refine XS.astoreN X27.here hx rfl (hb hby at_15) rfl rfl (l' := #[.val (.int p0), .val (.ref a_SECOND), .unset]) rfl ?_
      show Steps p.tables e below (T27.setTop (mkF m 16 #[.val (.int p0), .val (.ref a_SECOND), .unset] [])) _
      refine XS.aloadN X27.here hx rfl (hb hby at_16) rfl rfl ?_
      show Steps p.tables e below (T27.setTop (mkF m 17 #[.val (.int p0), .val (.ref a_SECOND), .unset] [(.ref a_SECOND)])) _
      exact kq)
    obtain ⟨cq30, kq30, q30a, q30b, q30c⟩ := isOf hZ e27 E_a_SECOND
    obtain ⟨_, _, ⟨T30, L30, k30, n30⟩, -, X30, ⟨Lc30, hQ30, l30, y30, z30⟩, st30⟩ := X27.virtualBack hx (y := (⟨"com/example/tube2/tube2/conformance/Witness$Side", "other", "()Lcom/example/tube2/tube2/conformance/Witness$Side;"⟩ : MethodName)) (z := (⟨"com/example/tube2/tube2/conformance/Witness$Side", "other", "()Lcom/example/tube2/tube2/conformance/Witness$Side;"⟩ : MethodName)) hown (mvT hZ (hw _ (List.mem_of_getElem? (i := 3) rfl))) (mvT hZ (hw _ (List.mem_of_getElem? (i := 4) rfl))) (notFace_of_selects (args := #[]) (mvT hZ (hw _ (List.mem_of_getElem? (i := 6) rfl)))) (mvT hZ (hw _ (List.mem_of_getElem? (i := 6) rfl))) (mvT hZ (hw _ (List.mem_of_getElem? (i := 5) rfl))) (by decide) (backOf (W := 0) (rm1s l Z a0 hw [] a_FIRST a_SECOND h0 n0 Z0 S_FIRST S_SECOND hne) hZ (hw _ (List.mem_of_getElem? (i := 7) rfl)) (hw _ (List.mem_of_getElem? (i := 1) rfl)) (by decide) (by decide)) q30a q30c (g := (mkF m 17 #[.val (.int p0), .val (.ref a_SECOND), .unset] [(.ref a_SECOND)])) rfl (by rw [hml]; rfl) (Steps.refl _) (argsL := []) (rest := []) (lenOf pd_0 rfl) rfl (by show 2 * 0 + _ ≤ _; exact Nat.le_of_eq rfl) (hb hby at_17) (fun _ _ => ⟨rfl, e27, (by decide : 0 + 0 ≤ _), (by decide : 0 + 0 ≤ _)⟩)
    dsimp only [Pt.U, Pt.locs, Pt.cells, Pt.slots] at X30 l30 y30 z30 st30 hQ30
    subst l30 y30 z30
    obtain ⟨rfl, N30q, e30⟩ := hQ30
    have N30 := Fr.app N0 N30q
    have G31 : Go p e below A0 (T30.setTop (mkF m 20 #[.val (.int p0), .val (.ref a_SECOND), .unset] [(.ref a_FIRST)])) := fun tq kq => G29 tq (st30.trans kq)
    have G32 : Go p e below A0 (T30.setTop (mkF m 35 #[.val (.int p0), .val (.ref a_SECOND), .val (.ref a_FIRST)] [(.ref a_FIRST)])) := fun tq kq => G31 tq (by
      refine XS.astoreN X30.here hx rfl (hb hby at_20) rfl rfl (l' := #[.val (.int p0), .val (.ref a_SECOND), .val (.ref a_FIRST)]) rfl ?_
      show Steps p.tables e below (T30.setTop (mkF m 21 #[.val (.int p0), .val (.ref a_SECOND), .val (.ref a_FIRST)] [])) _
      refine XS.aloadN X30.here hx rfl (hb hby at_21) rfl rfl ?_
      show Steps p.tables e below (T30.setTop (mkF m 22 #[.val (.int p0), .val (.ref a_SECOND), .val (.ref a_FIRST)] [(.ref a_FIRST)])) _
      refine XS.ifnonnullYes X30.here hx rfl (pc0 := 22) (pc' := 27) rfl (hb hby at_22) rfl (by decide) (by decide) ?_
      show Steps p.tables e below (T30.setTop (mkF m 27 #[.val (.int p0), .val (.ref a_SECOND), .val (.ref a_FIRST)] [])) _
      refine XS.aloadN X30.here hx rfl (hb hby at_27) rfl rfl ?_
      show Steps p.tables e below (T30.setTop (mkF m 28 #[.val (.int p0), .val (.ref a_SECOND), .val (.ref a_FIRST)] [(.ref a_FIRST)])) _
      refine XS.aloadN X30.here hx rfl (hb hby at_28) rfl rfl ?_
      show Steps p.tables e below (T30.setTop (mkF m 29 #[.val (.int p0), .val (.ref a_SECOND), .val (.ref a_FIRST)] [(.ref a_SECOND), (.ref a_FIRST)])) _
      refine Jvm.RoadKit.acmp (g := (mkF m 29 #[.val (.int p0), .val (.ref a_SECOND), .val (.ref a_FIRST)] [(.ref a_SECOND), (.ref a_FIRST)])) X30 hx rfl rfl rfl (pc0 := 29) (pc' := 34) (same := false) rfl (hb hby at_29) rfl (decide_eq_false fun q => (fun q => hne q.symm) (Value.ref.inj q)) (by decide) (by decide) ?_
      show Steps p.tables e below (T30.setTop (mkF m 34 #[.val (.int p0), .val (.ref a_SECOND), .val (.ref a_FIRST)] [])) _
      refine XS.aloadN X30.here hx rfl (hb hby at_34) rfl rfl ?_
      show Steps p.tables e below (T30.setTop (mkF m 35 #[.val (.int p0), .val (.ref a_SECOND), .val (.ref a_FIRST)] [(.ref a_FIRST)])) _
      exact kq)
    obtain ⟨cq33, kq33, q33a, q33b, q33c⟩ := isOf hZ e30 E_a_FIRST
    obtain ⟨_, _, ⟨T33, L33, k33, n33⟩, -, X33, ⟨Lc33, hQ33, l33, y33, z33⟩, st33⟩ := X30.virtualBack hx (y := (⟨"com/example/tube2/tube2/conformance/Witness$Side", "other", "()Lcom/example/tube2/tube2/conformance/Witness$Side;"⟩ : MethodName)) (z := (⟨"com/example/tube2/tube2/conformance/Witness$Side", "other", "()Lcom/example/tube2/tube2/conformance/Witness$Side;"⟩ : MethodName)) hown (mvT hZ (hw _ (List.mem_of_getElem? (i := 3) rfl))) (mvT hZ (hw _ (List.mem_of_getElem? (i := 4) rfl))) (notFace_of_selects (args := #[]) (mvT hZ (hw _ (List.mem_of_getElem? (i := 6) rfl)))) (mvT hZ (hw _ (List.mem_of_getElem? (i := 6) rfl))) (mvT hZ (hw _ (List.mem_of_getElem? (i := 5) rfl))) (by decide) (backOf (W := 0) (rm1f l Z a0 hw [] a_FIRST a_SECOND h0 n0 Z0 S_FIRST S_SECOND) hZ (hw _ (List.mem_of_getElem? (i := 7) rfl)) (hw _ (List.mem_of_getElem? (i := 1) rfl)) (by decide) (by decide)) q33a q33c (g := (mkF m 35 #[.val (.int p0), .val (.ref a_SECOND), .val (.ref a_FIRST)] [(.ref a_FIRST)])) rfl (by rw [hml]; rfl) (Steps.refl _) (argsL := []) (rest := []) (lenOf pd_0 rfl) rfl (by show 2 * 0 + _ ≤ _; exact Nat.le_of_eq rfl) (hb hby at_35) (fun _ _ => ⟨rfl, e30, (by decide : 0 + 0 ≤ _), (by decide : 0 + 0 ≤ _)⟩)
    dsimp only [Pt.U, Pt.locs, Pt.cells, Pt.slots] at X33 l33 y33 z33 st33 hQ33
    subst l33 y33 z33
    obtain ⟨rfl, N33q, e33⟩ := hQ33
    have N33 := Fr.app N30 N33q
    have G34 : Go p e below A0 (T33.setTop (mkF m 38 #[.val (.int p0), .val (.ref a_SECOND), .val (.ref a_FIRST)] [(.ref a_SECOND)])) := fun tq kq => G32 tq (st33.trans kq)
    have G35 : Go p e below A0 (T33.setTop (mkF m 47 #[.val (.int p0), .val (.ref a_SECOND), .val (.ref a_FIRST)] [(.int (1 : Int32))])) := fun tq kq => G34 tq (by
      refine XS.aloadN X33.here hx rfl (hb hby at_38) rfl rfl ?_
      show Steps p.tables e below (T33.setTop (mkF m 39 #[.val (.int p0), .val (.ref a_SECOND), .val (.ref a_FIRST)] [(.ref a_SECOND), (.ref a_SECOND)])) _
      refine Jvm.RoadKit.acmp (g := (mkF m 39 #[.val (.int p0), .val (.ref a_SECOND), .val (.ref a_FIRST)] [(.ref a_SECOND), (.ref a_SECOND)])) X33 hx rfl rfl rfl (pc0 := 39) (pc' := 42) (same := true) rfl (hb hby at_39) rfl (decide_eq_true rfl) (by decide) (by decide) ?_
      show Steps p.tables e below (T33.setTop (mkF m 42 #[.val (.int p0), .val (.ref a_SECOND), .val (.ref a_FIRST)] [])) _
      refine XS.iconst X33.here hx rfl (hb hby at_42) ?_
      show Steps p.tables e below (T33.setTop (mkF m 43 #[.val (.int p0), .val (.ref a_SECOND), .val (.ref a_FIRST)] [(.int (1 : Int32))])) _
      refine XS.goto X33.here hx rfl (pc0 := 43) (pc' := 47) rfl (hb hby at_43) (by decide) (by decide) ?_
      show Steps p.tables e below (T33.setTop (mkF m 47 #[.val (.int p0), .val (.ref a_SECOND), .val (.ref a_FIRST)] [(.int (1 : Int32))])) _
      exact kq)
    obtain ⟨fs, hr, hrun, hended, hW, hsame⟩ := X33.leave (v := some (.int (nar .boolean (1 : Int32)))) (fun h => by rw [Bd.returns] at h; cases h)
    refine ⟨_, _, (by rw [← hA0]; exact G35 _ (retN X33 hx (t := .boolean) Bd.returns (by simp) (hb hby at_47) hr)), hrun, hended, _, _, rfl, ?_, ⟨_, rfl⟩, hW, hsame.mono (by decide) (by decide)⟩
    exact ⟨rfl, N33⟩
set_option maxRecDepth 65536 in
set_option maxHeartbeats 40000000 in
theorem comes_1 {Post : Tables → Env → Array Value → State → Outcome → State → Prop} (hpost : ∀ tb e args s v u, (limb_1_1.after args s (.returned v) u = true ∧ limb_1_2.after args s (.returned v) u = true ∧ True) → FrameEnd s (.returned v) u (Jvm.fieldLocs frame_1_writes args s ++ Jvm.arrayLocs frame_1_arrays args s ++ Jvm.staticLocs frame_1_statics s) 0 0 → Post tb e args s (.returned v) u) :
    ArmFor flags0 classFile x code maxLocals ret World_1 tables_1 room_1 Calls_1 rest_1 Pre_1 Post := by
  intro l hfl _ _ p e ha hc hk s m args below hf hA hF happ hP
  obtain ⟨hcalls, hrest, hpre⟩ := hP
  obtain ⟨-, -, -, hnamed, -, -, -, hat⟩ := (Spec.applies_iff hf).mp happ
  obtain ⟨hg, hn⟩ := and_e (Cond.before_iff.mp (show (Jvm.Cond.and given_1 narrow_1).before args s = true from hpre))
  obtain ⟨g1, g2⟩ := and_e hg
  obtain ⟨w0, rfl⟩ : ∃ w0 : Value, args = #[w0] := by
    have hs : args.size = 1 := by simpa [Cond.value, given_1] using g1
    obtain ⟨L⟩ := args
    match L, hs with
    | [w0], _ => exact ⟨w0, rfl⟩
  have hw := fun d (hd : d ∈ tables_1) => atoms_spec (ws := Jvm.Cond.code x code maxLocals ret :: tables_1) hat d (List.mem_cons_of_mem _ hd)
  have hfit : Fit s := fun {y c} hc i hi => by
    obtain ⟨ha, rfl⟩ := Array.getElem?_eq_some_iff.mp hc
    have q := List.all_eq_true.mp ((Array.all_eq_true_iff_forall_mem.mp hF) _ (Array.getElem_mem ha)) i (List.mem_range.mpr hi)
    simpa [Array.getElem?_eq_getElem hi] using q
  obtain ⟨i0, ei0⟩ := is_v g2
  obtain rfl : w0 = (.int i0) := Option.some.inj ei0
  obtain ⟨u1, u2⟩ := and_e hn
  obtain ⟨a_FIRST, ea_FIRST⟩ := exa_v u1
  have S_FIRST : Sta s s.heap "com/example/tube2/tube2/conformance/Witness$Side" "FIRST" "Lcom/example/tube2/tube2/conformance/Witness$Side;" (.ref a_FIRST) := Sta.start ea_FIRST (Or.inr ⟨(hw _ (List.mem_of_getElem? (i := 1) rfl)), (hw _ (List.mem_of_getElem? (i := 2) rfl))⟩)
  have E_a_FIRST : Exa s s.heap a_FIRST "com/example/tube2/tube2/conformance/Witness$Side" := Exa.start ea_FIRST u1
  obtain ⟨u3, u4⟩ := and_e u2
  obtain ⟨a_SECOND, ea_SECOND⟩ := exa_v u3
  have S_SECOND : Sta s s.heap "com/example/tube2/tube2/conformance/Witness$Side" "SECOND" "Lcom/example/tube2/tube2/conformance/Witness$Side;" (.ref a_SECOND) := Sta.start ea_SECOND (Or.inr ⟨(hw _ (List.mem_of_getElem? (i := 1) rfl)), (hw _ (List.mem_of_getElem? (i := 10) rfl))⟩)
  have E_a_SECOND : Exa s s.heap a_SECOND "com/example/tube2/tube2/conformance/Witness$Side" := Exa.start ea_SECOND u3
  obtain ⟨u5, u6⟩ := and_e u4
  have q7 := own_eqI u5
  have F_a_SECOND_ordinal : Fld s s.heap a_SECOND "java/lang/Enum" "ordinal" "I" (.int (1 : Int32)) := Fld.start ((fld_at ea_SECOND).symm.trans q7)
  have q8 := own_eqI u6
  have F_a_FIRST_ordinal : Fld s s.heap a_FIRST "java/lang/Enum" "ordinal" "I" (.int (0 : Int32)) := Fld.start ((fld_at ea_FIRST).symm.trans q8)
  have hne : ¬ (a_SECOND = a_FIRST) := Fld.ne F_a_SECOND_ordinal F_a_FIRST_ordinal (by decide)
  obtain ⟨n, o, h1, h2, h3, _, L, rfl, ⟨rfl, N⟩, hq⟩ := rm0 l s _ hw tables_1 i0 a_FIRST a_SECOND s.heap s.heap.size (Nat.le_refl _) S_FIRST E_a_FIRST S_SECOND E_a_SECOND hne p e ha hc hk s m _ below hf ((Spec.applies_iff_loose hf).mp happ).1 ⟨rfl, State.Warmed39.refl s, rfl⟩ trivial
  refine ⟨n, _, h1, h2, h3, hpost _ _ _ _ _ _ ⟨Cond.after_iff.mpr rfl, Cond.after_iff.mpr (eq_i res_at (Term.int_eval (1)) rfl), trivial⟩ ⟨hq.1, hq.2.1, (hq.2.2.sift fun y hy => Or.inr (N y hy)).mono (by decide) (by decide)⟩⟩
theorem main_1_1 : Claimed_1_1 := comes_1 fun _ _ _ _ _ _ h hF => ⟨h.1, hF⟩
theorem main_1_2 : Claimed_1_2 := comes_1 fun _ _ _ _ _ _ h hF => ⟨h.2.1, hF⟩
end Jvm.Pilot.@@N@@
namespace Jvm.Pilot.@@N@@
open Jvm Jvm.ClassFile Sem Op Lib Jvm.Free Jvm.Stand Jvm.Pilot.@@N@@.Jvm.D
/-! MADE BY PROGRAM (witnessworld.py) out of the Statement's table words and the real class files: 12 classes; the members and pool entries that the words name. The judged class is class 1, her method 1. -/
namespace start1
open Jvm.ClassFile
def u (s : String) : CpInfo := .utf8 (stringToUtf16 s)
/-- a pool by its gaps: so many unusable entries, then the entry; so many at the end -/
def gap : Nat → List CpInfo → List CpInfo
  | 0, r => r
  | n + 1, r => .unusable :: gap n r
def poolList (es : List (Nat × CpInfo)) (last : Nat) : List CpInfo := es.foldr (fun e r => gap e.1 (e.2 :: r)) (gap last [])
def pool (es : List (Nat × CpInfo)) (last : Nat) : Array CpInfo := ⟨poolList es last⟩
def fileOf (pool : Array CpInfo) (this : Nat) (attrs : Array Attribute := #[]) (ms : Array MethodInfo := #[]) (fl : Nat := 33) (sup : Nat := 0) (ifs : Array Nat := #[]) (fds : Array FieldInfo := #[]) : ClassFile where
  minorVersion := 0
  majorVersion := 65
  constantPool := pool
  accessFlags := fl
  thisClass := this
  superClass := sup
  interfaces := ifs
  fields := fds
  methods := ms
  attributes := attrs
def plain (name : String) (sup : Option ClassId) : Class where
  name := name
  kind := .ordinary
  loader := none
  accessFlags := 33
  super := sup
  interfaces := #[]
  cf := none
  fields := #[]
  methods := #[]
  instanceTypes := #[]
  staticTypes := #[]
  resolved := #[]
  callSites := []
  init := .initialized
  statics := none
  mirror := none

def pool0 : Array CpInfo := pool [(5, u "<init>"), (0, u "()V"), (1, .class_ 10), (1, u "java/lang/Object")] 113

def k0m0 : Method := { name := "<init>", desc := "()V", sig := { parameters := [], returnType := none }, accessFlags := 1, code := none }
/-- java/lang/Object -/
def k0 : Class := { plain "java/lang/Object" none with
  accessFlags := 33
  interfaces := #[]
  cf := some (fileOf pool0 8 #[] #[{ accessFlags := 1, nameIndex := 5, descriptorIndex := 6, attributes := #[] }] 33 0 #[] #[])
  fields := #[]
  methods := #[k0m0]
  instanceTypes := #[]
  staticTypes := #[]
  resolved := Array.replicate 124 none
  statics := none }

def pool1 : Array CpInfo := pool [(2, .class_ 4), (1, u "java/lang/Object"), (0, u "<init>"), (0, u "()V"), (0, .fieldref 8 9), (0, .class_ 10), (0, .nameAndType 11 12), (0, u "com/example/tube2/tube2/conformance/Witness$Side"), (0, u "SECOND"), (0, u "Lcom/example/tube2/tube2/conformance/Witness$Side;"), (0, .fieldref 8 14), (0, .nameAndType 15 12), (0, u "FIRST"), (0, .methodref 8 17), (0, .nameAndType 18 19), (0, u "other"), (0, u "()Lcom/example/tube2/tube2/conformance/Witness$Side;"), (0, .class_ 21), (0, u "com/example/tube2/tube2/conformance/SideOtherPinLaw"), (2, u "law"), (0, u "(I)Z")] 7

def k1m0 : Method := { name := "<init>", desc := "()V", sig := { parameters := [], returnType := none }, accessFlags := 1, code := none }
def k1c1 : Code := { maxStack := 2, maxLocals := 3, code := code, exceptionTable := #[], attributes := #[] }
def k1m1 : Method := { name := "law", desc := "(I)Z", sig := { parameters := [.int], returnType := some .boolean }, accessFlags := 9, code := some k1c1 }
/-- com/example/tube2/tube2/conformance/SideOtherPinLaw -/
def k1 : Class := { plain "com/example/tube2/tube2/conformance/SideOtherPinLaw" (some 0) with
  accessFlags := 49
  interfaces := #[]
  cf := some (fileOf pool1 20 #[] #[{ accessFlags := 1, nameIndex := 5, descriptorIndex := 6, attributes := #[] }, { accessFlags := 9, nameIndex := 24, descriptorIndex := 25, attributes := #[] }] 49 2 #[] #[])
  fields := #[]
  methods := #[k1m0, k1m1]
  instanceTypes := #[]
  staticTypes := #[]
  resolved := Array.replicate 33 none
  statics := none }

def pool2 : Array CpInfo := pool [(1, .class_ 2), (0, u "java/lang/constant/Constable"), (0, .class_ 4), (0, u "java/lang/Object")] 6

/-- java/lang/constant/Constable -/
def k2 : Class := { plain "java/lang/constant/Constable" (some 0) with
  accessFlags := 1537
  interfaces := #[]
  cf := some (fileOf pool2 1 #[] #[] 1537 3 #[] #[])
  fields := #[]
  methods := #[]
  instanceTypes := #[]
  staticTypes := #[]
  resolved := Array.replicate 11 none
  statics := none }

def pool3 : Array CpInfo := pool [(1, .class_ 2), (0, u "java/lang/Comparable"), (0, .class_ 4), (0, u "java/lang/Object")] 7

/-- java/lang/Comparable -/
def k3 : Class := { plain "java/lang/Comparable" (some 0) with
  accessFlags := 1537
  interfaces := #[]
  cf := some (fileOf pool3 1 #[] #[] 1537 3 #[] #[])
  fields := #[]
  methods := #[]
  instanceTypes := #[]
  staticTypes := #[]
  resolved := Array.replicate 12 none
  statics := none }

def pool4 : Array CpInfo := pool [(1, .class_ 2), (0, u "java/io/Serializable"), (0, .class_ 4), (0, u "java/lang/Object")] 2

/-- java/io/Serializable -/
def k4 : Class := { plain "java/io/Serializable" (some 0) with
  accessFlags := 1537
  interfaces := #[]
  cf := some (fileOf pool4 1 #[] #[] 1537 3 #[] #[])
  fields := #[]
  methods := #[]
  instanceTypes := #[]
  staticTypes := #[]
  resolved := Array.replicate 7 none
  statics := none }

def pool5 : Array CpInfo := pool [(2, .class_ 4), (1, u "java/lang/Enum"), (0, u "name"), (0, u "Ljava/lang/String;"), (2, u "ordinal"), (0, u "I"), (1, .class_ 14), (1, u "java/lang/Object"), (4, u "hash"), (86, .class_ 108), (1, u "java/lang/Enum$EnumDesc"), (2, .class_ 112), (0, u "java/lang/constant/Constable"), (0, .class_ 114), (0, u "java/lang/Comparable"), (0, .class_ 116), (0, u "java/io/Serializable")] 87

/-- java/lang/Enum -/
def k5 : Class := { plain "java/lang/Enum" (some 0) with
  accessFlags := 1057
  interfaces := #[2, 3, 4]
  cf := some (fileOf pool5 2 #[.nestMembers #[106]] #[] 1057 12 #[111, 113, 115] #[{ accessFlags := 18, nameIndex := 5, descriptorIndex := 6, attributes := #[] }, { accessFlags := 18, nameIndex := 9, descriptorIndex := 10, attributes := #[] }, { accessFlags := 2, nameIndex := 19, descriptorIndex := 10, attributes := #[] }])
  fields := #[{ name := "name", type := (.object "java/lang/String"), accessFlags := 18, slot := 0, constantValue := 0 }, { name := "ordinal", type := .int, accessFlags := 18, slot := 1, constantValue := 0 }, { name := "hash", type := .int, accessFlags := 2, slot := 2, constantValue := 0 }]
  methods := #[]
  instanceTypes := #[(.object "java/lang/String"), .int, .int]
  staticTypes := #[]
  resolved := Array.replicate 204 none
  statics := none }

def pool6 : Array CpInfo := pool [(1, .class_ 2), (0, u "com/example/tube2/tube2/conformance/Witness$Side"), (0, .fieldref 1 4), (0, .nameAndType 5 6), (0, u "FIRST"), (0, u "Lcom/example/tube2/tube2/conformance/Witness$Side;"), (0, .fieldref 1 8), (0, .nameAndType 9 6), (0, u "SECOND"), (2, u "$VALUES"), (0, u "[Lcom/example/tube2/tube2/conformance/Witness$Side;"), (6, .class_ 22), (1, u "java/lang/Enum"), (20, u "other"), (0, u "()Lcom/example/tube2/tube2/conformance/Witness$Side;"), (6, .class_ 52), (0, u "com/example/tube2/tube2/conformance/Witness")] 2

def k6c0 : Code := { maxStack := 2, maxLocals := 1, code := prog_32_method_4_code, exceptionTable := #[], attributes := #[] }
def k6m0 : Method := { name := "other", desc := "()Lcom/example/tube2/tube2/conformance/Witness$Side;", sig := { parameters := [], returnType := some (.object "com/example/tube2/tube2/conformance/Witness$Side") }, accessFlags := 1, code := some k6c0 }
/-- com/example/tube2/tube2/conformance/Witness$Side -/
def k6 : Class := { plain "com/example/tube2/tube2/conformance/Witness$Side" (some 5) with
  accessFlags := 16433
  interfaces := #[]
  cf := some (fileOf pool6 1 #[.nestHost 51] #[{ accessFlags := 1, nameIndex := 43, descriptorIndex := 44, attributes := #[] }] 16433 20 #[] #[{ accessFlags := 16409, nameIndex := 5, descriptorIndex := 6, attributes := #[] }, { accessFlags := 16409, nameIndex := 9, descriptorIndex := 6, attributes := #[] }, { accessFlags := 4122, nameIndex := 12, descriptorIndex := 13, attributes := #[] }])
  fields := #[{ name := "FIRST", type := (.object "com/example/tube2/tube2/conformance/Witness$Side"), accessFlags := 16409, slot := 0, constantValue := 0 }, { name := "SECOND", type := (.object "com/example/tube2/tube2/conformance/Witness$Side"), accessFlags := 16409, slot := 1, constantValue := 0 }, { name := "$VALUES", type := (.array (.object "com/example/tube2/tube2/conformance/Witness$Side")), accessFlags := 4122, slot := 2, constantValue := 0 }]
  methods := #[k6m0]
  instanceTypes := #[(.object "java/lang/String"), .int, .int]
  staticTypes := #[(.object "com/example/tube2/tube2/conformance/Witness$Side"), (.object "com/example/tube2/tube2/conformance/Witness$Side"), (.array (.object "com/example/tube2/tube2/conformance/Witness$Side"))]
  resolved := Array.replicate 55 none
  statics := some 0 }

def pool7 : Array CpInfo := pool [(1, u "java/lang/Cloneable"), (0, .class_ 1), (0, u "java/lang/Object"), (0, .class_ 3)] 3

/-- java/lang/Cloneable -/
def k7 : Class := { plain "java/lang/Cloneable" (some 0) with
  accessFlags := 1537
  interfaces := #[]
  cf := some (fileOf pool7 2 #[] #[] 1537 4 #[] #[])
  fields := #[]
  methods := #[]
  instanceTypes := #[]
  staticTypes := #[]
  resolved := Array.replicate 8 none
  statics := none }

/-- the primitive byte -/
def k8 : Class := { plain "byte" none with kind := .primitive 'B', accessFlags := 0x411 }
/-- [B -/
def k9 : Class := { plain "[B" (some 0) with kind := .array 8 .byte, interfaces := #[7, 4], accessFlags := 1041 }

/-- the primitive int -/
def k10 : Class := { plain "int" none with kind := .primitive 'I', accessFlags := 0x411 }
/-- [I -/
def k11 : Class := { plain "[I" (some 0) with kind := .array 10 .int, interfaces := #[7, 4], accessFlags := 1041 }

def heap : Heap := #[{ cls := 6, slots := #[.ref 1, .ref 2, .null], vm := .statics 6 },
  { cls := 6, slots := #[.null, .int 0, .int 0], vm := .none },
  { cls := 6, slots := #[.null, .int 1, .int 0], vm := .none }]
def classes : Array Class := #[k0, k1, k2, k3, k4, k5, k6, k7, k8, k9, k10, k11]
def interned : List (Array UInt16 × Addr) := []
def slotsUsed : Nat := 9
def theMethod : MethodId := ⟨1, 1⟩
def args0 : Array Value := #[.int 1]
def aboutOver (below : List Frame) : State where
  vm := { classes := classes, interned := interned.toArray }
  heap := heap
  slotsUsed := slotsUsed
  threads := #[{ frames := .invoking theMethod args0 :: below }]
def below0 : List Frame := [.native { method := ⟨0, 0⟩, args := #[] }]
def about1 : State := aboutOver below0
def p0 : Program := .bare "" "" ""
def e0 : Env := launch0.env 0 0 0
theorem w_frames : about1.frames = Frame.invoking theMethod args0 :: below0 := rfl
set_option maxRecDepth 65536 in
theorem w_args : argsFit about1.vm theMethod args0 = true := by decide +kernel
set_option maxRecDepth 65536 in
theorem w_heap : heapFits about1 = true := by decide +kernel
set_option maxRecDepth 65536 in
theorem w_runnable : about1.curStatus? = some .runnable := by decide +kernel
set_option maxRecDepth 65536 in
theorem w_alone : about1.alone = true := by decide +kernel
set_option maxRecDepth 65536 in
theorem w_named : about1.methodNamed? x = some theMethod := by decide +kernel
set_option maxRecDepth 65536 in
theorem w_hears : about1.hears theMethod below0 = true := by decide +kernel
set_option maxRecDepth 65536 in
theorem w_ripe : about1.ripe theMethod args0 below0 = true := by decide +kernel
theorem w_running : about1.status = .running := rfl
set_option maxRecDepth 65536 in
theorem w_room : about1.hasRoom e0.platform room_1 = true :=
  launch0.hasRoom_least _ room_1 (by decide +kernel) (by decide +kernel) (by decide +kernel) (by decide +kernel) (by decide +kernel) (by decide +kernel)
theorem allAtoms_all (ts : List Jvm.Cond) (a : Array Jvm.Value) (st : Jvm.State) : (allAtoms ts).before a st = ts.all (fun c => c.before a st) := by
  induction ts with
  | nil => rfl
  | cons c t ih =>
    show (Jvm.Cond.and c (allAtoms t)).before a st = _
    rw [Jvm.Cond.before_and, ih, List.all_cons]
def words1 : List Jvm.Cond := Jvm.Cond.code x code maxLocals ret :: tables_1
/-- a 'code' word, met by the world's own term for the bytes: nothing is compared byte by byte -/
theorem code_word {y : MethodName} {bytes : ByteArray} {mx : Nat} {rt : Option FieldType} {a : Array Value} {s : State} {m : MethodId} {meth : Method} {c : Code} (h1 : s.methodNamed? y = some m) (h2 : s.vm.method? m = some meth) (h3 : meth.code = some c) (h4 : c.code = bytes)
    (h5 : (c.maxLocals == mx && c.exceptionTable.isEmpty && decide (c.maxStack ≤ mostOperands) && decide (meth.sig.returnType = rt) && !meth.locks && decide (parseMethodDescriptor y.desc = some meth.sig)) = true) : (Jvm.Cond.code y bytes mx rt).before a s = true := by
  simp only [Bool.and_eq_true, beq_iff_eq, Bool.not_eq_true', decide_eq_true_eq] at h5
  obtain ⟨⟨⟨⟨⟨g1, g2⟩, g3⟩, g4⟩, g5⟩, g6⟩ := h5
  simp [Cond.before, Cond.holds, Cond.value, h1, h2, h3, h4, g1, g2, g3, g4, g5, g6]
def isCode : Jvm.Cond → Bool
  | .code _ _ _ _ => true
  | _ => false
theorem all_split {L : List Jvm.Cond} {P : Jvm.Cond → Bool} (h1 : L.all (fun c => isCode c || P c) = true) (h2 : ∀ c ∈ L.filter isCode, P c = true) : L.all P = true := by
  refine List.all_eq_true.mpr fun c hc => ?_
  have h := List.all_eq_true.mp h1 c hc
  rcases Bool.eq_false_or_eq_true (isCode c) with hi | hi
  · exact h2 c (List.mem_filter.mpr ⟨hc, hi⟩)
  · simpa [hi] using h
set_option maxRecDepth 65536 in
theorem w_c0 : (Jvm.Cond.code x code maxLocals ret).before args0 about1 = true := code_word (m := ⟨1, 1⟩) (meth := k1m1) (c := k1c1) (by decide +kernel) rfl rfl rfl (by decide +kernel)
set_option maxRecDepth 65536 in
theorem w_c1 : (Jvm.Cond.code ({ cls := "com/example/tube2/tube2/conformance/Witness$Side", name := "other", desc := "()Lcom/example/tube2/tube2/conformance/Witness$Side;" } : Jvm.MethodName) prog_32_method_4_code (1 : Nat) (Option.some (Jvm.ClassFile.FieldType.object "com/example/tube2/tube2/conformance/Witness$Side"))).before args0 about1 = true := code_word (m := ⟨6, 0⟩) (meth := k6m0) (c := k6c0) (by decide +kernel) rfl rfl rfl (by decide +kernel)
def codes1 : List Jvm.Cond := [Jvm.Cond.code x code maxLocals ret, Jvm.Cond.code ({ cls := "com/example/tube2/tube2/conformance/Witness$Side", name := "other", desc := "()Lcom/example/tube2/tube2/conformance/Witness$Side;" } : Jvm.MethodName) prog_32_method_4_code (1 : Nat) (Option.some (Jvm.ClassFile.FieldType.object "com/example/tube2/tube2/conformance/Witness$Side"))]
set_option maxRecDepth 65536 in
theorem codes_eq : words1.filter isCode = codes1 := rfl
theorem w_codes : ∀ c ∈ words1.filter isCode, c.before args0 about1 = true := by
  rw [codes_eq]
  intro c hc
  simp only [codes1, List.mem_cons, List.not_mem_nil, or_false] at hc
  rcases hc with rfl | rfl
  · exact w_c0
  · exact w_c1
set_option maxRecDepth 65536 in
theorem w_t1 : words1.all (fun c => isCode c || c.before args0 about1) = true := by decide +kernel
theorem w_tables : (allAtoms (Jvm.Cond.code x code maxLocals ret :: tables_1)).before args0 about1 = true := by
  rw [allAtoms_all]
  show words1.all (fun c => c.before args0 about1) = true
  refine all_split ?_ w_codes
  rw [w_t1]
set_option maxRecDepth 65536 in
theorem w_case : (Jvm.Cond.and given_1 narrow_1).before args0 about1 = true := by decide +kernel
theorem w_applies : (headSpec (Jvm.Cond.code x code maxLocals ret :: tables_1) room_1).applies x e0.platform about1 = true :=
  (Spec.applies_iff w_frames).mpr ⟨w_running, w_runnable, w_alone, w_named, w_hears, w_ripe, w_room, w_tables⟩
theorem atStart : AtStart classFile x code maxLocals ret World_1 tables_1 room_1 Calls_1 rest_1 Pre_1 launch0 p0 e0 about1 theMethod args0 below0 :=
  ⟨lists_1, trivial, launch0.admits_env _ _ _, launch0.least_env, fairChoices_fair.cas, fairChoices_fair.clock, w_frames, w_args, w_heap, w_applies, trivial, trivial, w_case⟩
end start1
theorem witness_1 : WitnessClaimed_1 := ⟨start1.p0, start1.e0, start1.about1, start1.theMethod, start1.args0, start1.below0, start1.atStart⟩
end Jvm.Pilot.@@N@@
