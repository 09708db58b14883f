import JvmDerived
import JvmDerived.Pilot.@@N@@Statement
import JvmDerived.Pilot.@@N@@Code
set_option linter.unusedVariables false
set_option linter.unusedSimpArgs false
namespace Jvm.Pilot.@@N@@
open Jvm Jvm.ClassFile Sem Op Lib Jvm.Free Jvm.Stand Jvm.LawKit Jvm.RoadKit Bundle Jvm.Pilot.@@N@@.Jvm.D
/-- from A the run comes to B -/
def Go (p : Program) (e : Env) (below : List Frame) (A B : State) : Prop := ∀ t, Steps p.tables e below B t → Steps p.tables e below A t
def own_b (P : Prop) [Decidable P] : Int32 := if P then 1 else 0
theorem own_b1 {P : Prop} [Decidable P] (h : P) : ¬ own_b P = (0 : Int32) := by simp [own_b, h]
theorem own_b0 {P : Prop} [Decidable P] (h : ¬ P) : own_b P = (0 : Int32) := by simp [own_b, h]
theorem own_bt {P : Prop} [Decidable P] (h : P) : own_b P = (1 : Int32) := by simp [own_b, h]
theorem own_nb {P : Prop} [Decidable P] : nar .boolean (own_b P) = own_b P := by by_cases h : P <;> simp [own_b, h] <;> decide
theorem own_beq {P R : Prop} [Decidable P] [Decidable R] (h : P ↔ R) : own_b P = own_b R := by by_cases q : P <;> simp [own_b, q, ← h]
theorem d1_0 : decode prog_139_method_3_code 0 = .ok (.lload_n 2, 1) := by decide +kernel
theorem d1_1 : decode prog_139_method_3_code 1 = .ok (.lload_n 0, 1) := by decide +kernel
theorem d1_2 : decode prog_139_method_3_code 2 = .ok (.lconst 1, 1) := by decide +kernel
theorem d1_3 : decode prog_139_method_3_code 3 = .ok (.ladd, 1) := by decide +kernel
theorem d1_4 : decode prog_139_method_3_code 4 = .ok (.lcmp, 1) := by decide +kernel
theorem d1_5 : decode prog_139_method_3_code 5 = .ok (.ifCond .eq 19, 3) := by decide +kernel
theorem d1_8 : decode prog_139_method_3_code 8 = .ok (.lload_n 0, 1) := by decide +kernel
theorem d1_9 : decode prog_139_method_3_code 9 = .ok (.ldc2_w 9, 3) := by decide +kernel
theorem d1_12 : decode prog_139_method_3_code 12 = .ok (.lcmp, 1) := by decide +kernel
theorem d1_13 : decode prog_139_method_3_code 13 = .ok (.ifCond .le 15, 3) := by decide +kernel
theorem d1_16 : decode prog_139_method_3_code 16 = .ok (.lload_n 2, 1) := by decide +kernel
theorem d1_17 : decode prog_139_method_3_code 17 = .ok (.ldc2_w 11, 3) := by decide +kernel
theorem d1_20 : decode prog_139_method_3_code 20 = .ok (.lcmp, 1) := by decide +kernel
theorem d1_21 : decode prog_139_method_3_code 21 = .ok (.ifCond .ge 7, 3) := by decide +kernel
theorem d1_24 : decode prog_139_method_3_code 24 = .ok (.iconst 1, 1) := by decide +kernel
theorem d1_25 : decode prog_139_method_3_code 25 = .ok (.goto 4, 3) := by decide +kernel
theorem d1_28 : decode prog_139_method_3_code 28 = .ok (.iconst 0, 1) := by decide +kernel
theorem d1_29 : decode prog_139_method_3_code 29 = .ok (.ireturn, 1) := by decide +kernel
theorem pn_0 : plainName "com/example/halyard/halyard/transport/SequenceNumbers" = true := by first | (simp [plainName, overriddenIn]; done) | decide +kernel
theorem pn_1 : plainName "com/example/halyard/halyard/transport/SequenceNumbersFollowsPinLaw" = true := by first | (simp [plainName, overriddenIn]; done) | decide +kernel
theorem pd_0 : parseMethodDescriptor "(JJ)Z" = some ⟨[.long, .long], some .boolean⟩ := by decide +kernel
theorem ef_rm1 (m : MethodId) (x0 : Int64) (x1 : Int64) : entryFrame m #[(.long x0), (.long x1)] 4 = mkF m 0 #[.val (.long x0), .second, .val (.long x1), .second] [] := by first | (simp [entryFrame, mkF, argsToLocals, Value.category]; done) | rfl
theorem ef_rm0 (m : MethodId) (x0 : Int64) (x1 : Int64) (x2 : Int32) : entryFrame m #[(.long x0), (.long x1), (.int x2)] maxLocals = mkF m 0 #[.val (.long x0), .second, .val (.long x1), .second, .val (.int x2), .unset, .unset, .unset, .unset, .unset, .unset, .unset, .unset] [] := by first | (simp [entryFrame, mkF, argsToLocals, Value.category, maxLocals]; done) | rfl
def Q1c (q0 q1 : Int64) (h0 : Heap) (n0 : Nat) (v : Option Value) (h : Heap) (L : List Loc) : Prop := v = some (.int (own_b (q1 = q0 + (1 : Int64) ∨ ((4294966271 : Int64) < q0 ∧ q1 < (1024 : Int64))))) ∧ Fr n0 L ∧ h = h0
set_option maxRecDepth 65536 in
set_option maxHeartbeats 40000000 in
theorem rm1 (l : Launch) (Z : State) (a0 : Array Value) (hw : ∀ d ∈ tables_1, d.before a0 Z = true) (ws : List Jvm.Cond) (q0 q1 : Int64) (h0 : Heap) (n0 : Nat) (Z0 : n0 ≤ h0.size) :
    MetFree l (⟨"com/example/halyard/halyard/transport/SequenceNumbers", "follows", "(JJ)Z"⟩ : MethodName) (head1 (Jvm.Cond.code (⟨"com/example/halyard/halyard/transport/SequenceNumbers", "follows", "(JJ)Z"⟩ : MethodName) prog_139_method_3_code 4 (some .boolean) :: ws) ({ frames := 0, cells := 0, slots := 0, locals := 0 } : Room)) (fun aa UU => aa = #[(.long q0), (.long q1)] ∧ Z.Warmed39 UU.vm ∧ UU.heap = h0) (fun _ _ _ _ _ => True) (fun _ UU oo U' => ∃ v L, oo = .returned v ∧ Q1c q0 q1 h0 n0 v U'.heap L ∧ FrameEnd UU oo U' L ({ frames := 0, cells := 0, slots := 0, locals := 0 } : Room).cells ({ frames := 0, cells := 0, slots := 0, locals := 0 } : Room).slots) := by
  refine MetFree.of_bodySF (plainFor_of_name pn_0) hisR ?_
  intro p e s m args below meth c s₁ Bd hml0 hP hK
  obtain ⟨rfl, hZ, hh⟩ := hP
  have hx := Bd.exec
  have hby := Bd.bytes
  have hml : c.maxLocals = 4 := hml0
  have hown : s.vm.findClass "com/example/halyard/halyard/transport/SequenceNumbers" = some m.cls := findClass_of_methodNamed Bd.named
  have hnm := (name_of_methodNamed Bd.named Bd.method).1
  have X0 : Stand p l e ({ frames := 0, cells := 0, slots := 0, locals := 0 } : Room) s m #[(.long q0), (.long q1)] below meth c s₁ [] 0 0 := Stand.of_body Bd
  have e0 : s₁.heap = h0 := by rw [← hh, Bd.state]; rfl
  have N0 := Fr.nil n0
  obtain ⟨A0, hA0⟩ : ∃ A, A = s₁.setTop (entryFrame m #[(.long q0), (.long q1)] 4) := ⟨_, rfl⟩
  have G0 : Go p e below A0 (s₁.setTop (mkF m 0 #[.val (.long q0), .second, .val (.long q1), .second] [])) := fun t k => by rw [hA0]; exact castTop (ef_rm1 m q0 q1) k
  have G1 : Go p e below A0 (s₁.setTop (mkF m 5 #[.val (.long q0), .second, .val (.long q1), .second] [(.int (lcmpW q1 (q0 + (1 : Int64))))])) := fun t k => G0 t (by
    refine XS.lloadN X0.here hx rfl (hb hby d1_0) rfl ?_
    show Steps p.tables e below (s₁.setTop (mkF m 1 #[.val (.long q0), .second, .val (.long q1), .second] [(.long q1)])) _
    refine XS.lloadN X0.here hx rfl (hb hby d1_1) rfl ?_
    show Steps p.tables e below (s₁.setTop (mkF m 2 #[.val (.long q0), .second, .val (.long q1), .second] [(.long q0), (.long q1)])) _
    refine XS.lconst X0.here hx rfl (hb hby d1_2) ?_
    show Steps p.tables e below (s₁.setTop (mkF m 3 #[.val (.long q0), .second, .val (.long q1), .second] [(.long (1 : Int64)), (.long q0), (.long q1)])) _
    refine XS.ladd X0.here hx rfl (hb hby d1_3) rfl ?_
    show Steps p.tables e below (s₁.setTop (mkF m 4 #[.val (.long q0), .second, .val (.long q1), .second] [(.long (q0 + (1 : Int64))), (.long q1)])) _
    refine XS.lcmp X0.here hx rfl (hb hby d1_4) rfl ?_
    show Steps p.tables e below (s₁.setTop (mkF m 5 #[.val (.long q0), .second, .val (.long q1), .second] [(.int (lcmpW q1 (q0 + (1 : Int64))))])) _
    exact k)
  by_cases hc2 : q1 = (q0 + (1 : Int64))
  · have G3 : Go p e below A0 (s₁.setTop (mkF m 29 #[.val (.long q0), .second, .val (.long q1), .second] [(.int (1 : Int32))])) := fun t k => G1 t (by
      refine XS.ifYes X0.here hx rfl (pc0 := 5) (pc' := 24) rfl (hb hby d1_5) rfl ((if0 _ _).trans (teq ((lw_eq _ _).mpr hc2)).1) (by decide) (by decide) ?_
      show Steps p.tables e below (s₁.setTop (mkF m 24 #[.val (.long q0), .second, .val (.long q1), .second] [])) _
      refine XS.iconst X0.here hx rfl (hb hby d1_24) ?_
      show Steps p.tables e below (s₁.setTop (mkF m 25 #[.val (.long q0), .second, .val (.long q1), .second] [(.int (1 : Int32))])) _
      refine XS.goto X0.here hx rfl (pc0 := 25) (pc' := 29) rfl (hb hby d1_25) (by decide) (by decide) ?_
      show Steps p.tables e below (s₁.setTop (mkF m 29 #[.val (.long q0), .second, .val (.long q1), .second] [(.int (1 : Int32))])) _
      exact k)
    obtain ⟨fs, hr, hrun, hended, hW, hsame⟩ := X0.leave (v := some (.int (nar .boolean (1 : Int32)))) (fun h => by rw [Bd.returns] at h; cases h)
    refine ⟨_, _, (by rw [← hA0]; exact G3 _ (retN X0 hx (t := .boolean) Bd.returns (by simp) (hb hby d1_29) hr)), hrun, hended, _, _, rfl, ?_, ⟨_, rfl⟩, hW, hsame.mono (by decide) (by decide)⟩
    exact ⟨(by rw [show own_b (q1 = q0 + (1 : Int64) ∨ ((4294966271 : Int64) < q0 ∧ q1 < (1024 : Int64))) = (1 : Int32) from by simp [own_b, hc2]]; rfl), N0, e0⟩
  · have G4 : Go p e below A0 (s₁.setTop (mkF m 13 #[.val (.long q0), .second, .val (.long q1), .second] [(.int (lcmpW q0 (4294966271 : Int64)))])) := fun t k => G1 t (by
      refine XS.ifNo X0.here hx rfl (hb hby d1_5) rfl ((if0 _ _).trans (feq (fun q => hc2 ((lw_eq _ _).mp q))).1) ?_
      show Steps p.tables e below (s₁.setTop (mkF m 8 #[.val (.long q0), .second, .val (.long q1), .second] [])) _
      refine XS.lloadN X0.here hx rfl (hb hby d1_8) rfl ?_
      show Steps p.tables e below (s₁.setTop (mkF m 9 #[.val (.long q0), .second, .val (.long q1), .second] [(.long q0)])) _
      refine X0.ldc2Long hx hown (mvT hZ (hw _ (List.mem_of_getElem? (i := 6) rfl))) (g := (mkF m 9 #[.val (.long q0), .second, .val (.long q1), .second] [(.long q0)])) rfl (hb hby d1_9) _ ?_
      show Steps p.tables e below (s₁.setTop (mkF m 12 #[.val (.long q0), .second, .val (.long q1), .second] [(.long (4294966271 : Int64)), (.long q0)])) _
      refine XS.lcmp X0.here hx rfl (hb hby d1_12) rfl ?_
      show Steps p.tables e below (s₁.setTop (mkF m 13 #[.val (.long q0), .second, .val (.long q1), .second] [(.int (lcmpW q0 (4294966271 : Int64)))])) _
      exact k)
    by_cases hc5 : (4294966271 : Int64) < q0
    · have G6 : Go p e below A0 (s₁.setTop (mkF m 21 #[.val (.long q0), .second, .val (.long q1), .second] [(.int (lcmpW q1 (1024 : Int64)))])) := fun t k => G4 t (by
        refine XS.ifNo X0.here hx rfl (hb hby d1_13) rfl ((if0 _ _).trans (tlt ((lw_gt _ _).mpr hc5)).2.2.2) ?_
        show Steps p.tables e below (s₁.setTop (mkF m 16 #[.val (.long q0), .second, .val (.long q1), .second] [])) _
        refine XS.lloadN X0.here hx rfl (hb hby d1_16) rfl ?_
        show Steps p.tables e below (s₁.setTop (mkF m 17 #[.val (.long q0), .second, .val (.long q1), .second] [(.long q1)])) _
        refine X0.ldc2Long hx hown (mvT hZ (hw _ (List.mem_of_getElem? (i := 11) rfl))) (g := (mkF m 17 #[.val (.long q0), .second, .val (.long q1), .second] [(.long q1)])) rfl (hb hby d1_17) _ ?_
        show Steps p.tables e below (s₁.setTop (mkF m 20 #[.val (.long q0), .second, .val (.long q1), .second] [(.long (1024 : Int64)), (.long q1)])) _
        refine XS.lcmp X0.here hx rfl (hb hby d1_20) rfl ?_
        show Steps p.tables e below (s₁.setTop (mkF m 21 #[.val (.long q0), .second, .val (.long q1), .second] [(.int (lcmpW q1 (1024 : Int64)))])) _
        exact k)
      by_cases hc7 : q1 < (1024 : Int64)
      · have G8 : Go p e below A0 (s₁.setTop (mkF m 29 #[.val (.long q0), .second, .val (.long q1), .second] [(.int (1 : Int32))])) := fun t k => G6 t (by
          refine XS.ifNo X0.here hx rfl (hb hby d1_21) rfl ((if0 _ _).trans (tlt ((lw_lt _ _).mpr hc7)).2.1) ?_
          show Steps p.tables e below (s₁.setTop (mkF m 24 #[.val (.long q0), .second, .val (.long q1), .second] [])) _
          refine XS.iconst X0.here hx rfl (hb hby d1_24) ?_
          show Steps p.tables e below (s₁.setTop (mkF m 25 #[.val (.long q0), .second, .val (.long q1), .second] [(.int (1 : Int32))])) _
          refine XS.goto X0.here hx rfl (pc0 := 25) (pc' := 29) rfl (hb hby d1_25) (by decide) (by decide) ?_
          show Steps p.tables e below (s₁.setTop (mkF m 29 #[.val (.long q0), .second, .val (.long q1), .second] [(.int (1 : Int32))])) _
          exact k)
        obtain ⟨fs, hr, hrun, hended, hW, hsame⟩ := X0.leave (v := some (.int (nar .boolean (1 : Int32)))) (fun h => by rw [Bd.returns] at h; cases h)
        refine ⟨_, _, (by rw [← hA0]; exact G8 _ (retN X0 hx (t := .boolean) Bd.returns (by simp) (hb hby d1_29) hr)), hrun, hended, _, _, rfl, ?_, ⟨_, rfl⟩, hW, hsame.mono (by decide) (by decide)⟩
        exact ⟨(by rw [show own_b (q1 = q0 + (1 : Int64) ∨ ((4294966271 : Int64) < q0 ∧ q1 < (1024 : Int64))) = (1 : Int32) from by simp [own_b, hc2, hc5, hc7]]; rfl), N0, e0⟩
      · have G9 : Go p e below A0 (s₁.setTop (mkF m 29 #[.val (.long q0), .second, .val (.long q1), .second] [(.int (0 : Int32))])) := fun t k => G6 t (by
          refine XS.ifYes X0.here hx rfl (pc0 := 21) (pc' := 28) rfl (hb hby d1_21) rfl ((if0 _ _).trans (flt (fun q => hc7 ((lw_lt _ _).mp q))).2.1) (by decide) (by decide) ?_
          show Steps p.tables e below (s₁.setTop (mkF m 28 #[.val (.long q0), .second, .val (.long q1), .second] [])) _
          refine XS.iconst X0.here hx rfl (hb hby d1_28) ?_
          show Steps p.tables e below (s₁.setTop (mkF m 29 #[.val (.long q0), .second, .val (.long q1), .second] [(.int (0 : Int32))])) _
          exact k)
        obtain ⟨fs, hr, hrun, hended, hW, hsame⟩ := X0.leave (v := some (.int (nar .boolean (0 : Int32)))) (fun h => by rw [Bd.returns] at h; cases h)
        refine ⟨_, _, (by rw [← hA0]; exact G9 _ (retN X0 hx (t := .boolean) Bd.returns (by simp) (hb hby d1_29) hr)), hrun, hended, _, _, rfl, ?_, ⟨_, rfl⟩, hW, hsame.mono (by decide) (by decide)⟩
        exact ⟨(by rw [show own_b (q1 = q0 + (1 : Int64) ∨ ((4294966271 : Int64) < q0 ∧ q1 < (1024 : Int64))) = (0 : Int32) from by simp [own_b, hc2, hc5, hc7]]; rfl), N0, e0⟩
    · have G10 : Go p e below A0 (s₁.setTop (mkF m 29 #[.val (.long q0), .second, .val (.long q1), .second] [(.int (0 : Int32))])) := fun t k => G4 t (by
        refine XS.ifYes X0.here hx rfl (pc0 := 13) (pc' := 28) rfl (hb hby d1_13) rfl ((if0 _ _).trans (flt (fun q => hc5 ((lw_gt _ _).mp q))).2.2.2) (by decide) (by decide) ?_
        show Steps p.tables e below (s₁.setTop (mkF m 28 #[.val (.long q0), .second, .val (.long q1), .second] [])) _
        refine XS.iconst X0.here hx rfl (hb hby d1_28) ?_
        show Steps p.tables e below (s₁.setTop (mkF m 29 #[.val (.long q0), .second, .val (.long q1), .second] [(.int (0 : Int32))])) _
        exact k)
      obtain ⟨fs, hr, hrun, hended, hW, hsame⟩ := X0.leave (v := some (.int (nar .boolean (0 : Int32)))) (fun h => by rw [Bd.returns] at h; cases h)
      refine ⟨_, _, (by rw [← hA0]; exact G10 _ (retN X0 hx (t := .boolean) Bd.returns (by simp) (hb hby d1_29) hr)), hrun, hended, _, _, rfl, ?_, ⟨_, rfl⟩, hW, hsame.mono (by decide) (by decide)⟩
      exact ⟨(by rw [show own_b (q1 = q0 + (1 : Int64) ∨ ((4294966271 : Int64) < q0 ∧ q1 < (1024 : Int64))) = (0 : Int32) from by simp [own_b, hc2, hc5]]; rfl), N0, e0⟩
theorem own_same (p n : Int64) : (n = p + (1 : Int64) ∨ ((4294966271 : Int64) < p ∧ n < (1024 : Int64))) ↔ ((n - p) = (1 : Int64) ∨ (¬ p < (4294966272 : Int64)) ∧ ¬ (1023 : Int64) < n) := by
  have h1 : n = p + 1 ↔ n - p = 1 := by
    constructor
    · rintro rfl; rw [Int64.add_comm, Int64.add_sub_cancel]
    · intro h; rw [← h, Int64.add_comm, Int64.sub_add_cancel]
  rw [h1]
  simp only [Int64.lt_iff_toInt_lt]
  have e1 : (4294966271 : Int64).toInt = 4294966271 := by decide
  have e2 : (4294966272 : Int64).toInt = 4294966272 := by decide
  have e3 : (1024 : Int64).toInt = 1024 := by decide
  have e4 : (1023 : Int64).toInt = 1023 := by decide
  rw [e1, e2, e3, e4]
  constructor
  · rintro (h | ⟨h, h'⟩)
    · exact Or.inl h
    · exact Or.inr ⟨by omega, by omega⟩
  · rintro (h | ⟨h, h'⟩)
    · exact Or.inl h
    · exact Or.inr ⟨by omega, by omega⟩
def Q0c (n0 : Nat) (v : Option Value) (L : List Loc) : Prop := v = some (.int 1) ∧ Fr n0 L
set_option maxRecDepth 65536 in
set_option maxHeartbeats 40000000 in
theorem rm0 (l : Launch) (Z : State) (a0 : Array Value) (hw : ∀ d ∈ tables_1, d.before a0 Z = true) (ws : List Jvm.Cond) (q0 q1 : Int64) (p2 : Int32) (h0 : Heap) (n0 : Nat) (Z0 : n0 ≤ h0.size) :
    MetFree l x (head1 (Jvm.Cond.code x code maxLocals ret :: ws) room_1) (fun aa UU => aa = #[(.long q0), (.long q1), (.int p2)] ∧ Z.Warmed39 UU.vm ∧ UU.heap = h0) (fun _ _ _ _ _ => True) (fun _ UU oo U' => ∃ v L, oo = .returned v ∧ Q0c n0 v L ∧ FrameEnd UU oo U' L room_1.cells room_1.slots) := by
  refine MetFree.of_bodySF (plainFor_of_name pn_1) hisR ?_
  intro p e s m args below meth c s₁ Bd hml0 hP hK
  obtain ⟨rfl, hZ, hh⟩ := hP
  have hx := Bd.exec
  have hby := Bd.bytes
  have hml : c.maxLocals = 13 := hml0
  have hown : s.vm.findClass "com/example/halyard/halyard/transport/SequenceNumbersFollowsPinLaw" = some m.cls := findClass_of_methodNamed Bd.named
  have hnm := (name_of_methodNamed Bd.named Bd.method).1
  have X0 : Stand p l e room_1 s m #[(.long q0), (.long q1), (.int p2)] below meth c s₁ [] 0 0 := Stand.of_body Bd
  have e0 : s₁.heap = h0 := by rw [← hh, Bd.state]; rfl
  have N0 := Fr.nil n0
  obtain ⟨A0, hA0⟩ : ∃ A, A = s₁.setTop (entryFrame m #[(.long q0), (.long q1), (.int p2)] maxLocals) := ⟨_, rfl⟩
  have G0 : Go p e below A0 (s₁.setTop (mkF m 0 #[.val (.long q0), .second, .val (.long q1), .second, .val (.int p2), .unset, .unset, .unset, .unset, .unset, .unset, .unset, .unset] [])) := fun t k => by rw [hA0]; exact castTop (ef_rm0 m q0 q1 p2) k
  obtain ⟨p5, p7, G11⟩ : ∃ (p5 : Int64) (p7 : Int32), Go p e below A0 (s₁.setTop (mkF m 48 #[.val (.long q0), .second, .val (.long q1), .second, .val (.int p2), .val (.long p5), .second, .val (.int p7), .unset, .unset, .unset, .unset, .unset] [])) := by
    have G12 : Go p e below A0 (s₁.setTop (mkF m 8 #[.val (.long q0), .second, .val (.long q1), .second, .val (.int p2), .unset, .unset, .val (.int (p2 &&& (3 : Int32))), .unset, .unset, .unset, .unset, .unset] [(.int (p2 &&& (3 : Int32)))])) := fun t k => G0 t (by
      refine XS.iload X0.here hx rfl (hb hby at_0) rfl ?_
      show Steps p.tables e below (s₁.setTop (mkF m 2 #[.val (.long q0), .second, .val (.long q1), .second, .val (.int p2), .unset, .unset, .unset, .unset, .unset, .unset, .unset, .unset] [(.int p2)])) _
      refine XS.iconst X0.here hx rfl (hb hby at_2) ?_
      show Steps p.tables e below (s₁.setTop (mkF m 3 #[.val (.long q0), .second, .val (.long q1), .second, .val (.int p2), .unset, .unset, .unset, .unset, .unset, .unset, .unset, .unset] [(.int (3 : Int32)), (.int p2)])) _
      refine XS.iand X0.here hx rfl (hb hby at_3) rfl ?_
      show Steps p.tables e below (s₁.setTop (mkF m 4 #[.val (.long q0), .second, .val (.long q1), .second, .val (.int p2), .unset, .unset, .unset, .unset, .unset, .unset, .unset, .unset] [(.int (p2 &&& (3 : Int32)))])) _
      refine XS.istore X0.here hx rfl (hb hby at_4) rfl (l' := #[.val (.long q0), .second, .val (.long q1), .second, .val (.int p2), .unset, .unset, .val (.int (p2 &&& (3 : Int32))), .unset, .unset, .unset, .unset, .unset]) rfl ?_
      show Steps p.tables e below (s₁.setTop (mkF m 6 #[.val (.long q0), .second, .val (.long q1), .second, .val (.int p2), .unset, .unset, .val (.int (p2 &&& (3 : Int32))), .unset, .unset, .unset, .unset, .unset] [])) _
      refine XS.iload X0.here hx rfl (hb hby at_6) rfl ?_
      show Steps p.tables e below (s₁.setTop (mkF m 8 #[.val (.long q0), .second, .val (.long q1), .second, .val (.int p2), .unset, .unset, .val (.int (p2 &&& (3 : Int32))), .unset, .unset, .unset, .unset, .unset] [(.int (p2 &&& (3 : Int32)))])) _
      exact k)
    by_cases hc13 : (p2 &&& (3 : Int32)) = (0 : Int32)
    · have G14 : Go p e below A0 (s₁.setTop (mkF m 48 #[.val (.long q0), .second, .val (.long q1), .second, .val (.int p2), .val (.long (q0 &&& (4294967295 : Int64))), .second, .val (.int (p2 &&& (3 : Int32))), .unset, .unset, .unset, .unset, .unset] [])) := fun t k => G12 t (by
        refine XS.ifNo X0.here hx rfl (hb hby at_8) rfl ((if0 _ _).trans (teq hc13).2) ?_
        show Steps p.tables e below (s₁.setTop (mkF m 11 #[.val (.long q0), .second, .val (.long q1), .second, .val (.int p2), .unset, .unset, .val (.int (p2 &&& (3 : Int32))), .unset, .unset, .unset, .unset, .unset] [])) _
        refine XS.lloadN X0.here hx rfl (hb hby at_11) rfl ?_
        show Steps p.tables e below (s₁.setTop (mkF m 12 #[.val (.long q0), .second, .val (.long q1), .second, .val (.int p2), .unset, .unset, .val (.int (p2 &&& (3 : Int32))), .unset, .unset, .unset, .unset, .unset] [(.long q0)])) _
        refine X0.ldc2Long hx hown (mvT hZ (hw _ (List.mem_of_getElem? (i := 0) rfl))) (g := (mkF m 12 #[.val (.long q0), .second, .val (.long q1), .second, .val (.int p2), .unset, .unset, .val (.int (p2 &&& (3 : Int32))), .unset, .unset, .unset, .unset, .unset] [(.long q0)])) rfl (hb hby at_12) _ ?_
        show Steps p.tables e below (s₁.setTop (mkF m 15 #[.val (.long q0), .second, .val (.long q1), .second, .val (.int p2), .unset, .unset, .val (.int (p2 &&& (3 : Int32))), .unset, .unset, .unset, .unset, .unset] [(.long (4294967295 : Int64)), (.long q0)])) _
        refine XS.land X0.here hx rfl (hb hby at_15) rfl ?_
        show Steps p.tables e below (s₁.setTop (mkF m 16 #[.val (.long q0), .second, .val (.long q1), .second, .val (.int p2), .unset, .unset, .val (.int (p2 &&& (3 : Int32))), .unset, .unset, .unset, .unset, .unset] [(.long (q0 &&& (4294967295 : Int64)))])) _
        refine XS.lstore X0.here hx rfl (hb hby at_16) rfl (l' := #[.val (.long q0), .second, .val (.long q1), .second, .val (.int p2), .val (.long (q0 &&& (4294967295 : Int64))), .second, .val (.int (p2 &&& (3 : Int32))), .unset, .unset, .unset, .unset, .unset]) rfl ?_
        show Steps p.tables e below (s₁.setTop (mkF m 18 #[.val (.long q0), .second, .val (.long q1), .second, .val (.int p2), .val (.long (q0 &&& (4294967295 : Int64))), .second, .val (.int (p2 &&& (3 : Int32))), .unset, .unset, .unset, .unset, .unset] [])) _
        refine XS.goto X0.here hx rfl (pc0 := 18) (pc' := 48) rfl (hb hby at_18) (by decide) (by decide) ?_
        show Steps p.tables e below (s₁.setTop (mkF m 48 #[.val (.long q0), .second, .val (.long q1), .second, .val (.int p2), .val (.long (q0 &&& (4294967295 : Int64))), .second, .val (.int (p2 &&& (3 : Int32))), .unset, .unset, .unset, .unset, .unset] [])) _
        exact k)
      exact ⟨(q0 &&& (4294967295 : Int64)), (p2 &&& (3 : Int32)), G14⟩
    · have G15 : Go p e below A0 (s₁.setTop (mkF m 24 #[.val (.long q0), .second, .val (.long q1), .second, .val (.int p2), .unset, .unset, .val (.int (p2 &&& (3 : Int32))), .unset, .unset, .unset, .unset, .unset] [(.int (1 : Int32)), (.int (p2 &&& (3 : Int32)))])) := fun t k => G12 t (by
        refine XS.ifYes X0.here hx rfl (pc0 := 8) (pc' := 21) rfl (hb hby at_8) rfl ((if0 _ _).trans (feq hc13).2) (by decide) (by decide) ?_
        show Steps p.tables e below (s₁.setTop (mkF m 21 #[.val (.long q0), .second, .val (.long q1), .second, .val (.int p2), .unset, .unset, .val (.int (p2 &&& (3 : Int32))), .unset, .unset, .unset, .unset, .unset] [])) _
        refine XS.iload X0.here hx rfl (hb hby at_21) rfl ?_
        show Steps p.tables e below (s₁.setTop (mkF m 23 #[.val (.long q0), .second, .val (.long q1), .second, .val (.int p2), .unset, .unset, .val (.int (p2 &&& (3 : Int32))), .unset, .unset, .unset, .unset, .unset] [(.int (p2 &&& (3 : Int32)))])) _
        refine XS.iconst X0.here hx rfl (hb hby at_23) ?_
        show Steps p.tables e below (s₁.setTop (mkF m 24 #[.val (.long q0), .second, .val (.long q1), .second, .val (.int p2), .unset, .unset, .val (.int (p2 &&& (3 : Int32))), .unset, .unset, .unset, .unset, .unset] [(.int (1 : Int32)), (.int (p2 &&& (3 : Int32)))])) _
        exact k)
      by_cases hc16 : (p2 &&& (3 : Int32)) = (1 : Int32)
      · have G17 : Go p e below A0 (s₁.setTop (mkF m 48 #[.val (.long q0), .second, .val (.long q1), .second, .val (.int p2), .val (.long ((4294967295 : Int64) - (q0 &&& (2047 : Int64)))), .second, .val (.int (p2 &&& (3 : Int32))), .unset, .unset, .unset, .unset, .unset] [])) := fun t k => G15 t (by
          refine XS.icmpNo X0.here hx rfl (hb hby at_24) rfl (teq hc16).2 ?_
          show Steps p.tables e below (s₁.setTop (mkF m 27 #[.val (.long q0), .second, .val (.long q1), .second, .val (.int p2), .unset, .unset, .val (.int (p2 &&& (3 : Int32))), .unset, .unset, .unset, .unset, .unset] [])) _
          refine X0.ldc2Long hx hown (mvT hZ (hw _ (List.mem_of_getElem? (i := 0) rfl))) (g := (mkF m 27 #[.val (.long q0), .second, .val (.long q1), .second, .val (.int p2), .unset, .unset, .val (.int (p2 &&& (3 : Int32))), .unset, .unset, .unset, .unset, .unset] [])) rfl (hb hby at_27) _ ?_
          show Steps p.tables e below (s₁.setTop (mkF m 30 #[.val (.long q0), .second, .val (.long q1), .second, .val (.int p2), .unset, .unset, .val (.int (p2 &&& (3 : Int32))), .unset, .unset, .unset, .unset, .unset] [(.long (4294967295 : Int64))])) _
          refine XS.lloadN X0.here hx rfl (hb hby at_30) rfl ?_
          show Steps p.tables e below (s₁.setTop (mkF m 31 #[.val (.long q0), .second, .val (.long q1), .second, .val (.int p2), .unset, .unset, .val (.int (p2 &&& (3 : Int32))), .unset, .unset, .unset, .unset, .unset] [(.long q0), (.long (4294967295 : Int64))])) _
          refine X0.ldc2Long hx hown (mvT hZ (hw _ (List.mem_of_getElem? (i := 7) rfl))) (g := (mkF m 31 #[.val (.long q0), .second, .val (.long q1), .second, .val (.int p2), .unset, .unset, .val (.int (p2 &&& (3 : Int32))), .unset, .unset, .unset, .unset, .unset] [(.long q0), (.long (4294967295 : Int64))])) rfl (hb hby at_31) _ ?_
          show Steps p.tables e below (s₁.setTop (mkF m 34 #[.val (.long q0), .second, .val (.long q1), .second, .val (.int p2), .unset, .unset, .val (.int (p2 &&& (3 : Int32))), .unset, .unset, .unset, .unset, .unset] [(.long (2047 : Int64)), (.long q0), (.long (4294967295 : Int64))])) _
          refine XS.land X0.here hx rfl (hb hby at_34) rfl ?_
          show Steps p.tables e below (s₁.setTop (mkF m 35 #[.val (.long q0), .second, .val (.long q1), .second, .val (.int p2), .unset, .unset, .val (.int (p2 &&& (3 : Int32))), .unset, .unset, .unset, .unset, .unset] [(.long (q0 &&& (2047 : Int64))), (.long (4294967295 : Int64))])) _
          refine XS.lsub X0.here hx rfl (hb hby at_35) rfl ?_
          show Steps p.tables e below (s₁.setTop (mkF m 36 #[.val (.long q0), .second, .val (.long q1), .second, .val (.int p2), .unset, .unset, .val (.int (p2 &&& (3 : Int32))), .unset, .unset, .unset, .unset, .unset] [(.long ((4294967295 : Int64) - (q0 &&& (2047 : Int64))))])) _
          refine XS.lstore X0.here hx rfl (hb hby at_36) rfl (l' := #[.val (.long q0), .second, .val (.long q1), .second, .val (.int p2), .val (.long ((4294967295 : Int64) - (q0 &&& (2047 : Int64)))), .second, .val (.int (p2 &&& (3 : Int32))), .unset, .unset, .unset, .unset, .unset]) rfl ?_
          show Steps p.tables e below (s₁.setTop (mkF m 38 #[.val (.long q0), .second, .val (.long q1), .second, .val (.int p2), .val (.long ((4294967295 : Int64) - (q0 &&& (2047 : Int64)))), .second, .val (.int (p2 &&& (3 : Int32))), .unset, .unset, .unset, .unset, .unset] [])) _
          refine XS.goto X0.here hx rfl (pc0 := 38) (pc' := 48) rfl (hb hby at_38) (by decide) (by decide) ?_
          show Steps p.tables e below (s₁.setTop (mkF m 48 #[.val (.long q0), .second, .val (.long q1), .second, .val (.int p2), .val (.long ((4294967295 : Int64) - (q0 &&& (2047 : Int64)))), .second, .val (.int (p2 &&& (3 : Int32))), .unset, .unset, .unset, .unset, .unset] [])) _
          exact k)
        exact ⟨((4294967295 : Int64) - (q0 &&& (2047 : Int64))), (p2 &&& (3 : Int32)), G17⟩
      · have G18 : Go p e below A0 (s₁.setTop (mkF m 48 #[.val (.long q0), .second, .val (.long q1), .second, .val (.int p2), .val (.long (q0 &&& (2047 : Int64))), .second, .val (.int (p2 &&& (3 : Int32))), .unset, .unset, .unset, .unset, .unset] [])) := fun t k => G15 t (by
          refine XS.icmpYes X0.here hx rfl (pc0 := 24) (pc' := 41) rfl (hb hby at_24) rfl (feq hc16).2 (by decide) (by decide) ?_
          show Steps p.tables e below (s₁.setTop (mkF m 41 #[.val (.long q0), .second, .val (.long q1), .second, .val (.int p2), .unset, .unset, .val (.int (p2 &&& (3 : Int32))), .unset, .unset, .unset, .unset, .unset] [])) _
          refine XS.lloadN X0.here hx rfl (hb hby at_41) rfl ?_
          show Steps p.tables e below (s₁.setTop (mkF m 42 #[.val (.long q0), .second, .val (.long q1), .second, .val (.int p2), .unset, .unset, .val (.int (p2 &&& (3 : Int32))), .unset, .unset, .unset, .unset, .unset] [(.long q0)])) _
          refine X0.ldc2Long hx hown (mvT hZ (hw _ (List.mem_of_getElem? (i := 7) rfl))) (g := (mkF m 42 #[.val (.long q0), .second, .val (.long q1), .second, .val (.int p2), .unset, .unset, .val (.int (p2 &&& (3 : Int32))), .unset, .unset, .unset, .unset, .unset] [(.long q0)])) rfl (hb hby at_42) _ ?_
          show Steps p.tables e below (s₁.setTop (mkF m 45 #[.val (.long q0), .second, .val (.long q1), .second, .val (.int p2), .unset, .unset, .val (.int (p2 &&& (3 : Int32))), .unset, .unset, .unset, .unset, .unset] [(.long (2047 : Int64)), (.long q0)])) _
          refine XS.land X0.here hx rfl (hb hby at_45) rfl ?_
          show Steps p.tables e below (s₁.setTop (mkF m 46 #[.val (.long q0), .second, .val (.long q1), .second, .val (.int p2), .unset, .unset, .val (.int (p2 &&& (3 : Int32))), .unset, .unset, .unset, .unset, .unset] [(.long (q0 &&& (2047 : Int64)))])) _
          refine XS.lstore X0.here hx rfl (hb hby at_46) rfl (l' := #[.val (.long q0), .second, .val (.long q1), .second, .val (.int p2), .val (.long (q0 &&& (2047 : Int64))), .second, .val (.int (p2 &&& (3 : Int32))), .unset, .unset, .unset, .unset, .unset]) rfl ?_
          show Steps p.tables e below (s₁.setTop (mkF m 48 #[.val (.long q0), .second, .val (.long q1), .second, .val (.int p2), .val (.long (q0 &&& (2047 : Int64))), .second, .val (.int (p2 &&& (3 : Int32))), .unset, .unset, .unset, .unset, .unset] [])) _
          exact k)
        exact ⟨(q0 &&& (2047 : Int64)), (p2 &&& (3 : Int32)), G18⟩
  obtain ⟨p8, p10, G19⟩ : ∃ (p8 : Int64) (p10 : Int32), Go p e below A0 (s₁.setTop (mkF m 105 #[.val (.long q0), .second, .val (.long q1), .second, .val (.int p2), .val (.long p5), .second, .val (.int p7), .val (.long p8), .second, .val (.int p10), .unset, .unset] [])) := by
    have G20 : Go p e below A0 (s₁.setTop (mkF m 58 #[.val (.long q0), .second, .val (.long q1), .second, .val (.int p2), .val (.long p5), .second, .val (.int p7), .unset, .unset, .val (.int (((p2.toUInt32 >>> ((2 : Int32) &&& 31).toUInt32).toInt32) &&& (3 : Int32))), .unset, .unset] [(.int (((p2.toUInt32 >>> ((2 : Int32) &&& 31).toUInt32).toInt32) &&& (3 : Int32)))])) := fun t k => G11 t (by
      refine XS.iload X0.here hx rfl (hb hby at_48) rfl ?_
      show Steps p.tables e below (s₁.setTop (mkF m 50 #[.val (.long q0), .second, .val (.long q1), .second, .val (.int p2), .val (.long p5), .second, .val (.int p7), .unset, .unset, .unset, .unset, .unset] [(.int p2)])) _
      refine XS.iconst X0.here hx rfl (hb hby at_50) ?_
      show Steps p.tables e below (s₁.setTop (mkF m 51 #[.val (.long q0), .second, .val (.long q1), .second, .val (.int p2), .val (.long p5), .second, .val (.int p7), .unset, .unset, .unset, .unset, .unset] [(.int (2 : Int32)), (.int p2)])) _
      refine XS.iushr X0.here hx rfl (hb hby at_51) rfl ?_
      show Steps p.tables e below (s₁.setTop (mkF m 52 #[.val (.long q0), .second, .val (.long q1), .second, .val (.int p2), .val (.long p5), .second, .val (.int p7), .unset, .unset, .unset, .unset, .unset] [(.int ((p2.toUInt32 >>> ((2 : Int32) &&& 31).toUInt32).toInt32))])) _
      refine XS.iconst X0.here hx rfl (hb hby at_52) ?_
      show Steps p.tables e below (s₁.setTop (mkF m 53 #[.val (.long q0), .second, .val (.long q1), .second, .val (.int p2), .val (.long p5), .second, .val (.int p7), .unset, .unset, .unset, .unset, .unset] [(.int (3 : Int32)), (.int ((p2.toUInt32 >>> ((2 : Int32) &&& 31).toUInt32).toInt32))])) _
      refine XS.iand X0.here hx rfl (hb hby at_53) rfl ?_
      show Steps p.tables e below (s₁.setTop (mkF m 54 #[.val (.long q0), .second, .val (.long q1), .second, .val (.int p2), .val (.long p5), .second, .val (.int p7), .unset, .unset, .unset, .unset, .unset] [(.int (((p2.toUInt32 >>> ((2 : Int32) &&& 31).toUInt32).toInt32) &&& (3 : Int32)))])) _
      refine XS.istore X0.here hx rfl (hb hby at_54) rfl (l' := #[.val (.long q0), .second, .val (.long q1), .second, .val (.int p2), .val (.long p5), .second, .val (.int p7), .unset, .unset, .val (.int (((p2.toUInt32 >>> ((2 : Int32) &&& 31).toUInt32).toInt32) &&& (3 : Int32))), .unset, .unset]) rfl ?_
      show Steps p.tables e below (s₁.setTop (mkF m 56 #[.val (.long q0), .second, .val (.long q1), .second, .val (.int p2), .val (.long p5), .second, .val (.int p7), .unset, .unset, .val (.int (((p2.toUInt32 >>> ((2 : Int32) &&& 31).toUInt32).toInt32) &&& (3 : Int32))), .unset, .unset] [])) _
      refine XS.iload X0.here hx rfl (hb hby at_56) rfl ?_
      show Steps p.tables e below (s₁.setTop (mkF m 58 #[.val (.long q0), .second, .val (.long q1), .second, .val (.int p2), .val (.long p5), .second, .val (.int p7), .unset, .unset, .val (.int (((p2.toUInt32 >>> ((2 : Int32) &&& 31).toUInt32).toInt32) &&& (3 : Int32))), .unset, .unset] [(.int (((p2.toUInt32 >>> ((2 : Int32) &&& 31).toUInt32).toInt32) &&& (3 : Int32)))])) _
      exact k)
    by_cases hc21 : (((p2.toUInt32 >>> ((2 : Int32) &&& 31).toUInt32).toInt32) &&& (3 : Int32)) = (0 : Int32)
    · have G22 : Go p e below A0 (s₁.setTop (mkF m 105 #[.val (.long q0), .second, .val (.long q1), .second, .val (.int p2), .val (.long p5), .second, .val (.int p7), .val (.long (q1 &&& (4294967295 : Int64))), .second, .val (.int (((p2.toUInt32 >>> ((2 : Int32) &&& 31).toUInt32).toInt32) &&& (3 : Int32))), .unset, .unset] [])) := fun t k => G20 t (by
        refine XS.ifNo X0.here hx rfl (hb hby at_58) rfl ((if0 _ _).trans (teq hc21).2) ?_
        show Steps p.tables e below (s₁.setTop (mkF m 61 #[.val (.long q0), .second, .val (.long q1), .second, .val (.int p2), .val (.long p5), .second, .val (.int p7), .unset, .unset, .val (.int (((p2.toUInt32 >>> ((2 : Int32) &&& 31).toUInt32).toInt32) &&& (3 : Int32))), .unset, .unset] [])) _
        refine XS.lloadN X0.here hx rfl (hb hby at_61) rfl ?_
        show Steps p.tables e below (s₁.setTop (mkF m 62 #[.val (.long q0), .second, .val (.long q1), .second, .val (.int p2), .val (.long p5), .second, .val (.int p7), .unset, .unset, .val (.int (((p2.toUInt32 >>> ((2 : Int32) &&& 31).toUInt32).toInt32) &&& (3 : Int32))), .unset, .unset] [(.long q1)])) _
        refine X0.ldc2Long hx hown (mvT hZ (hw _ (List.mem_of_getElem? (i := 0) rfl))) (g := (mkF m 62 #[.val (.long q0), .second, .val (.long q1), .second, .val (.int p2), .val (.long p5), .second, .val (.int p7), .unset, .unset, .val (.int (((p2.toUInt32 >>> ((2 : Int32) &&& 31).toUInt32).toInt32) &&& (3 : Int32))), .unset, .unset] [(.long q1)])) rfl (hb hby at_62) _ ?_
        show Steps p.tables e below (s₁.setTop (mkF m 65 #[.val (.long q0), .second, .val (.long q1), .second, .val (.int p2), .val (.long p5), .second, .val (.int p7), .unset, .unset, .val (.int (((p2.toUInt32 >>> ((2 : Int32) &&& 31).toUInt32).toInt32) &&& (3 : Int32))), .unset, .unset] [(.long (4294967295 : Int64)), (.long q1)])) _
        refine XS.land X0.here hx rfl (hb hby at_65) rfl ?_
        show Steps p.tables e below (s₁.setTop (mkF m 66 #[.val (.long q0), .second, .val (.long q1), .second, .val (.int p2), .val (.long p5), .second, .val (.int p7), .unset, .unset, .val (.int (((p2.toUInt32 >>> ((2 : Int32) &&& 31).toUInt32).toInt32) &&& (3 : Int32))), .unset, .unset] [(.long (q1 &&& (4294967295 : Int64)))])) _
        refine XS.lstore X0.here hx rfl (hb hby at_66) rfl (l' := #[.val (.long q0), .second, .val (.long q1), .second, .val (.int p2), .val (.long p5), .second, .val (.int p7), .val (.long (q1 &&& (4294967295 : Int64))), .second, .val (.int (((p2.toUInt32 >>> ((2 : Int32) &&& 31).toUInt32).toInt32) &&& (3 : Int32))), .unset, .unset]) rfl ?_
        show Steps p.tables e below (s₁.setTop (mkF m 68 #[.val (.long q0), .second, .val (.long q1), .second, .val (.int p2), .val (.long p5), .second, .val (.int p7), .val (.long (q1 &&& (4294967295 : Int64))), .second, .val (.int (((p2.toUInt32 >>> ((2 : Int32) &&& 31).toUInt32).toInt32) &&& (3 : Int32))), .unset, .unset] [])) _
        refine XS.goto X0.here hx rfl (pc0 := 68) (pc' := 105) rfl (hb hby at_68) (by decide) (by decide) ?_
        show Steps p.tables e below (s₁.setTop (mkF m 105 #[.val (.long q0), .second, .val (.long q1), .second, .val (.int p2), .val (.long p5), .second, .val (.int p7), .val (.long (q1 &&& (4294967295 : Int64))), .second, .val (.int (((p2.toUInt32 >>> ((2 : Int32) &&& 31).toUInt32).toInt32) &&& (3 : Int32))), .unset, .unset] [])) _
        exact k)
      exact ⟨(q1 &&& (4294967295 : Int64)), (((p2.toUInt32 >>> ((2 : Int32) &&& 31).toUInt32).toInt32) &&& (3 : Int32)), G22⟩
    · have G23 : Go p e below A0 (s₁.setTop (mkF m 74 #[.val (.long q0), .second, .val (.long q1), .second, .val (.int p2), .val (.long p5), .second, .val (.int p7), .unset, .unset, .val (.int (((p2.toUInt32 >>> ((2 : Int32) &&& 31).toUInt32).toInt32) &&& (3 : Int32))), .unset, .unset] [(.int (1 : Int32)), (.int (((p2.toUInt32 >>> ((2 : Int32) &&& 31).toUInt32).toInt32) &&& (3 : Int32)))])) := fun t k => G20 t (by
        refine XS.ifYes X0.here hx rfl (pc0 := 58) (pc' := 71) rfl (hb hby at_58) rfl ((if0 _ _).trans (feq hc21).2) (by decide) (by decide) ?_
        show Steps p.tables e below (s₁.setTop (mkF m 71 #[.val (.long q0), .second, .val (.long q1), .second, .val (.int p2), .val (.long p5), .second, .val (.int p7), .unset, .unset, .val (.int (((p2.toUInt32 >>> ((2 : Int32) &&& 31).toUInt32).toInt32) &&& (3 : Int32))), .unset, .unset] [])) _
        refine XS.iload X0.here hx rfl (hb hby at_71) rfl ?_
        show Steps p.tables e below (s₁.setTop (mkF m 73 #[.val (.long q0), .second, .val (.long q1), .second, .val (.int p2), .val (.long p5), .second, .val (.int p7), .unset, .unset, .val (.int (((p2.toUInt32 >>> ((2 : Int32) &&& 31).toUInt32).toInt32) &&& (3 : Int32))), .unset, .unset] [(.int (((p2.toUInt32 >>> ((2 : Int32) &&& 31).toUInt32).toInt32) &&& (3 : Int32)))])) _
        refine XS.iconst X0.here hx rfl (hb hby at_73) ?_
        show Steps p.tables e below (s₁.setTop (mkF m 74 #[.val (.long q0), .second, .val (.long q1), .second, .val (.int p2), .val (.long p5), .second, .val (.int p7), .unset, .unset, .val (.int (((p2.toUInt32 >>> ((2 : Int32) &&& 31).toUInt32).toInt32) &&& (3 : Int32))), .unset, .unset] [(.int (1 : Int32)), (.int (((p2.toUInt32 >>> ((2 : Int32) &&& 31).toUInt32).toInt32) &&& (3 : Int32)))])) _
        exact k)
      by_cases hc24 : (((p2.toUInt32 >>> ((2 : Int32) &&& 31).toUInt32).toInt32) &&& (3 : Int32)) = (1 : Int32)
      · have G25 : Go p e below A0 (s₁.setTop (mkF m 105 #[.val (.long q0), .second, .val (.long q1), .second, .val (.int p2), .val (.long p5), .second, .val (.int p7), .val (.long ((p5 + ((q1 &&& (7 : Int64)) - (3 : Int64))) &&& (4294967295 : Int64))), .second, .val (.int (((p2.toUInt32 >>> ((2 : Int32) &&& 31).toUInt32).toInt32) &&& (3 : Int32))), .unset, .unset] [])) := fun t k => G23 t (by
          refine XS.icmpNo X0.here hx rfl (hb hby at_74) rfl (teq hc24).2 ?_
          show Steps p.tables e below (s₁.setTop (mkF m 77 #[.val (.long q0), .second, .val (.long q1), .second, .val (.int p2), .val (.long p5), .second, .val (.int p7), .unset, .unset, .val (.int (((p2.toUInt32 >>> ((2 : Int32) &&& 31).toUInt32).toInt32) &&& (3 : Int32))), .unset, .unset] [])) _
          refine XS.lload X0.here hx rfl (hb hby at_77) rfl ?_
          show Steps p.tables e below (s₁.setTop (mkF m 79 #[.val (.long q0), .second, .val (.long q1), .second, .val (.int p2), .val (.long p5), .second, .val (.int p7), .unset, .unset, .val (.int (((p2.toUInt32 >>> ((2 : Int32) &&& 31).toUInt32).toInt32) &&& (3 : Int32))), .unset, .unset] [(.long p5)])) _
          refine XS.lloadN X0.here hx rfl (hb hby at_79) rfl ?_
          show Steps p.tables e below (s₁.setTop (mkF m 80 #[.val (.long q0), .second, .val (.long q1), .second, .val (.int p2), .val (.long p5), .second, .val (.int p7), .unset, .unset, .val (.int (((p2.toUInt32 >>> ((2 : Int32) &&& 31).toUInt32).toInt32) &&& (3 : Int32))), .unset, .unset] [(.long q1), (.long p5)])) _
          refine X0.ldc2Long hx hown (mvT hZ (hw _ (List.mem_of_getElem? (i := 8) rfl))) (g := (mkF m 80 #[.val (.long q0), .second, .val (.long q1), .second, .val (.int p2), .val (.long p5), .second, .val (.int p7), .unset, .unset, .val (.int (((p2.toUInt32 >>> ((2 : Int32) &&& 31).toUInt32).toInt32) &&& (3 : Int32))), .unset, .unset] [(.long q1), (.long p5)])) rfl (hb hby at_80) _ ?_
          show Steps p.tables e below (s₁.setTop (mkF m 83 #[.val (.long q0), .second, .val (.long q1), .second, .val (.int p2), .val (.long p5), .second, .val (.int p7), .unset, .unset, .val (.int (((p2.toUInt32 >>> ((2 : Int32) &&& 31).toUInt32).toInt32) &&& (3 : Int32))), .unset, .unset] [(.long (7 : Int64)), (.long q1), (.long p5)])) _
          refine XS.land X0.here hx rfl (hb hby at_83) rfl ?_
          show Steps p.tables e below (s₁.setTop (mkF m 84 #[.val (.long q0), .second, .val (.long q1), .second, .val (.int p2), .val (.long p5), .second, .val (.int p7), .unset, .unset, .val (.int (((p2.toUInt32 >>> ((2 : Int32) &&& 31).toUInt32).toInt32) &&& (3 : Int32))), .unset, .unset] [(.long (q1 &&& (7 : Int64))), (.long p5)])) _
          refine X0.ldc2Long hx hown (mvT hZ (hw _ (List.mem_of_getElem? (i := 9) rfl))) (g := (mkF m 84 #[.val (.long q0), .second, .val (.long q1), .second, .val (.int p2), .val (.long p5), .second, .val (.int p7), .unset, .unset, .val (.int (((p2.toUInt32 >>> ((2 : Int32) &&& 31).toUInt32).toInt32) &&& (3 : Int32))), .unset, .unset] [(.long (q1 &&& (7 : Int64))), (.long p5)])) rfl (hb hby at_84) _ ?_
          show Steps p.tables e below (s₁.setTop (mkF m 87 #[.val (.long q0), .second, .val (.long q1), .second, .val (.int p2), .val (.long p5), .second, .val (.int p7), .unset, .unset, .val (.int (((p2.toUInt32 >>> ((2 : Int32) &&& 31).toUInt32).toInt32) &&& (3 : Int32))), .unset, .unset] [(.long (3 : Int64)), (.long (q1 &&& (7 : Int64))), (.long p5)])) _
          refine XS.lsub X0.here hx rfl (hb hby at_87) rfl ?_
          show Steps p.tables e below (s₁.setTop (mkF m 88 #[.val (.long q0), .second, .val (.long q1), .second, .val (.int p2), .val (.long p5), .second, .val (.int p7), .unset, .unset, .val (.int (((p2.toUInt32 >>> ((2 : Int32) &&& 31).toUInt32).toInt32) &&& (3 : Int32))), .unset, .unset] [(.long ((q1 &&& (7 : Int64)) - (3 : Int64))), (.long p5)])) _
          refine XS.ladd X0.here hx rfl (hb hby at_88) rfl ?_
          show Steps p.tables e below (s₁.setTop (mkF m 89 #[.val (.long q0), .second, .val (.long q1), .second, .val (.int p2), .val (.long p5), .second, .val (.int p7), .unset, .unset, .val (.int (((p2.toUInt32 >>> ((2 : Int32) &&& 31).toUInt32).toInt32) &&& (3 : Int32))), .unset, .unset] [(.long (p5 + ((q1 &&& (7 : Int64)) - (3 : Int64))))])) _
          refine X0.ldc2Long hx hown (mvT hZ (hw _ (List.mem_of_getElem? (i := 0) rfl))) (g := (mkF m 89 #[.val (.long q0), .second, .val (.long q1), .second, .val (.int p2), .val (.long p5), .second, .val (.int p7), .unset, .unset, .val (.int (((p2.toUInt32 >>> ((2 : Int32) &&& 31).toUInt32).toInt32) &&& (3 : Int32))), .unset, .unset] [(.long (p5 + ((q1 &&& (7 : Int64)) - (3 : Int64))))])) rfl (hb hby at_89) _ ?_
          show Steps p.tables e below (s₁.setTop (mkF m 92 #[.val (.long q0), .second, .val (.long q1), .second, .val (.int p2), .val (.long p5), .second, .val (.int p7), .unset, .unset, .val (.int (((p2.toUInt32 >>> ((2 : Int32) &&& 31).toUInt32).toInt32) &&& (3 : Int32))), .unset, .unset] [(.long (4294967295 : Int64)), (.long (p5 + ((q1 &&& (7 : Int64)) - (3 : Int64))))])) _
          refine XS.land X0.here hx rfl (hb hby at_92) rfl ?_
          show Steps p.tables e below (s₁.setTop (mkF m 93 #[.val (.long q0), .second, .val (.long q1), .second, .val (.int p2), .val (.long p5), .second, .val (.int p7), .unset, .unset, .val (.int (((p2.toUInt32 >>> ((2 : Int32) &&& 31).toUInt32).toInt32) &&& (3 : Int32))), .unset, .unset] [(.long ((p5 + ((q1 &&& (7 : Int64)) - (3 : Int64))) &&& (4294967295 : Int64)))])) _
          refine XS.lstore X0.here hx rfl (hb hby at_93) rfl (l' := #[.val (.long q0), .second, .val (.long q1), .second, .val (.int p2), .val (.long p5), .second, .val (.int p7), .val (.long ((p5 + ((q1 &&& (7 : Int64)) - (3 : Int64))) &&& (4294967295 : Int64))), .second, .val (.int (((p2.toUInt32 >>> ((2 : Int32) &&& 31).toUInt32).toInt32) &&& (3 : Int32))), .unset, .unset]) rfl ?_
          show Steps p.tables e below (s₁.setTop (mkF m 95 #[.val (.long q0), .second, .val (.long q1), .second, .val (.int p2), .val (.long p5), .second, .val (.int p7), .val (.long ((p5 + ((q1 &&& (7 : Int64)) - (3 : Int64))) &&& (4294967295 : Int64))), .second, .val (.int (((p2.toUInt32 >>> ((2 : Int32) &&& 31).toUInt32).toInt32) &&& (3 : Int32))), .unset, .unset] [])) _
          refine XS.goto X0.here hx rfl (pc0 := 95) (pc' := 105) rfl (hb hby at_95) (by decide) (by decide) ?_
          show Steps p.tables e below (s₁.setTop (mkF m 105 #[.val (.long q0), .second, .val (.long q1), .second, .val (.int p2), .val (.long p5), .second, .val (.int p7), .val (.long ((p5 + ((q1 &&& (7 : Int64)) - (3 : Int64))) &&& (4294967295 : Int64))), .second, .val (.int (((p2.toUInt32 >>> ((2 : Int32) &&& 31).toUInt32).toInt32) &&& (3 : Int32))), .unset, .unset] [])) _
          exact k)
        exact ⟨((p5 + ((q1 &&& (7 : Int64)) - (3 : Int64))) &&& (4294967295 : Int64)), (((p2.toUInt32 >>> ((2 : Int32) &&& 31).toUInt32).toInt32) &&& (3 : Int32)), G25⟩
      · have G26 : Go p e below A0 (s₁.setTop (mkF m 105 #[.val (.long q0), .second, .val (.long q1), .second, .val (.int p2), .val (.long p5), .second, .val (.int p7), .val (.long (q1 &&& (2047 : Int64))), .second, .val (.int (((p2.toUInt32 >>> ((2 : Int32) &&& 31).toUInt32).toInt32) &&& (3 : Int32))), .unset, .unset] [])) := fun t k => G23 t (by
          refine XS.icmpYes X0.here hx rfl (pc0 := 74) (pc' := 98) rfl (hb hby at_74) rfl (feq hc24).2 (by decide) (by decide) ?_
          show Steps p.tables e below (s₁.setTop (mkF m 98 #[.val (.long q0), .second, .val (.long q1), .second, .val (.int p2), .val (.long p5), .second, .val (.int p7), .unset, .unset, .val (.int (((p2.toUInt32 >>> ((2 : Int32) &&& 31).toUInt32).toInt32) &&& (3 : Int32))), .unset, .unset] [])) _
          refine XS.lloadN X0.here hx rfl (hb hby at_98) rfl ?_
          show Steps p.tables e below (s₁.setTop (mkF m 99 #[.val (.long q0), .second, .val (.long q1), .second, .val (.int p2), .val (.long p5), .second, .val (.int p7), .unset, .unset, .val (.int (((p2.toUInt32 >>> ((2 : Int32) &&& 31).toUInt32).toInt32) &&& (3 : Int32))), .unset, .unset] [(.long q1)])) _
          refine X0.ldc2Long hx hown (mvT hZ (hw _ (List.mem_of_getElem? (i := 7) rfl))) (g := (mkF m 99 #[.val (.long q0), .second, .val (.long q1), .second, .val (.int p2), .val (.long p5), .second, .val (.int p7), .unset, .unset, .val (.int (((p2.toUInt32 >>> ((2 : Int32) &&& 31).toUInt32).toInt32) &&& (3 : Int32))), .unset, .unset] [(.long q1)])) rfl (hb hby at_99) _ ?_
          show Steps p.tables e below (s₁.setTop (mkF m 102 #[.val (.long q0), .second, .val (.long q1), .second, .val (.int p2), .val (.long p5), .second, .val (.int p7), .unset, .unset, .val (.int (((p2.toUInt32 >>> ((2 : Int32) &&& 31).toUInt32).toInt32) &&& (3 : Int32))), .unset, .unset] [(.long (2047 : Int64)), (.long q1)])) _
          refine XS.land X0.here hx rfl (hb hby at_102) rfl ?_
          show Steps p.tables e below (s₁.setTop (mkF m 103 #[.val (.long q0), .second, .val (.long q1), .second, .val (.int p2), .val (.long p5), .second, .val (.int p7), .unset, .unset, .val (.int (((p2.toUInt32 >>> ((2 : Int32) &&& 31).toUInt32).toInt32) &&& (3 : Int32))), .unset, .unset] [(.long (q1 &&& (2047 : Int64)))])) _
          refine XS.lstore X0.here hx rfl (hb hby at_103) rfl (l' := #[.val (.long q0), .second, .val (.long q1), .second, .val (.int p2), .val (.long p5), .second, .val (.int p7), .val (.long (q1 &&& (2047 : Int64))), .second, .val (.int (((p2.toUInt32 >>> ((2 : Int32) &&& 31).toUInt32).toInt32) &&& (3 : Int32))), .unset, .unset]) rfl ?_
          show Steps p.tables e below (s₁.setTop (mkF m 105 #[.val (.long q0), .second, .val (.long q1), .second, .val (.int p2), .val (.long p5), .second, .val (.int p7), .val (.long (q1 &&& (2047 : Int64))), .second, .val (.int (((p2.toUInt32 >>> ((2 : Int32) &&& 31).toUInt32).toInt32) &&& (3 : Int32))), .unset, .unset] [])) _
          exact k)
        exact ⟨(q1 &&& (2047 : Int64)), (((p2.toUInt32 >>> ((2 : Int32) &&& 31).toUInt32).toInt32) &&& (3 : Int32)), G26⟩
  obtain ⟨v119, hG27, G27⟩ : ∃ (v119 : Int32), (v119 = own_b (¬ p5 < (4294966272 : Int64))) ∧ Go p e below A0 (s₁.setTop (mkF m 119 #[.val (.long q0), .second, .val (.long q1), .second, .val (.int p2), .val (.long p5), .second, .val (.int p7), .val (.long p8), .second, .val (.int p10), .unset, .unset] [(.int v119)])) := by
    have G28 : Go p e below A0 (s₁.setTop (mkF m 111 #[.val (.long q0), .second, .val (.long q1), .second, .val (.int p2), .val (.long p5), .second, .val (.int p7), .val (.long p8), .second, .val (.int p10), .unset, .unset] [(.int (lcmpW p5 (4294966272 : Int64)))])) := fun t k => G19 t (by
      refine XS.lload X0.here hx rfl (hb hby at_105) rfl ?_
      show Steps p.tables e below (s₁.setTop (mkF m 107 #[.val (.long q0), .second, .val (.long q1), .second, .val (.int p2), .val (.long p5), .second, .val (.int p7), .val (.long p8), .second, .val (.int p10), .unset, .unset] [(.long p5)])) _
      refine X0.ldc2Long hx hown (mvT hZ (hw _ (List.mem_of_getElem? (i := 1) rfl))) (g := (mkF m 107 #[.val (.long q0), .second, .val (.long q1), .second, .val (.int p2), .val (.long p5), .second, .val (.int p7), .val (.long p8), .second, .val (.int p10), .unset, .unset] [(.long p5)])) rfl (hb hby at_107) _ ?_
      show Steps p.tables e below (s₁.setTop (mkF m 110 #[.val (.long q0), .second, .val (.long q1), .second, .val (.int p2), .val (.long p5), .second, .val (.int p7), .val (.long p8), .second, .val (.int p10), .unset, .unset] [(.long (4294966272 : Int64)), (.long p5)])) _
      refine XS.lcmp X0.here hx rfl (hb hby at_110) rfl ?_
      show Steps p.tables e below (s₁.setTop (mkF m 111 #[.val (.long q0), .second, .val (.long q1), .second, .val (.int p2), .val (.long p5), .second, .val (.int p7), .val (.long p8), .second, .val (.int p10), .unset, .unset] [(.int (lcmpW p5 (4294966272 : Int64)))])) _
      exact k)
    by_cases hc29 : p5 < (4294966272 : Int64)
    · have G30 : Go p e below A0 (s₁.setTop (mkF m 119 #[.val (.long q0), .second, .val (.long q1), .second, .val (.int p2), .val (.long p5), .second, .val (.int p7), .val (.long p8), .second, .val (.int p10), .unset, .unset] [(.int (0 : Int32))])) := fun t k => G28 t (by
        refine XS.ifYes X0.here hx rfl (pc0 := 111) (pc' := 118) rfl (hb hby at_111) rfl ((if0 _ _).trans (tlt ((lw_lt _ _).mpr hc29)).1) (by decide) (by decide) ?_
        show Steps p.tables e below (s₁.setTop (mkF m 118 #[.val (.long q0), .second, .val (.long q1), .second, .val (.int p2), .val (.long p5), .second, .val (.int p7), .val (.long p8), .second, .val (.int p10), .unset, .unset] [])) _
        refine XS.iconst X0.here hx rfl (hb hby at_118) ?_
        show Steps p.tables e below (s₁.setTop (mkF m 119 #[.val (.long q0), .second, .val (.long q1), .second, .val (.int p2), .val (.long p5), .second, .val (.int p7), .val (.long p8), .second, .val (.int p10), .unset, .unset] [(.int (0 : Int32))])) _
        exact k)
      exact ⟨(0 : Int32), (by simp [own_b, hc29]), G30⟩
    · have G31 : Go p e below A0 (s₁.setTop (mkF m 119 #[.val (.long q0), .second, .val (.long q1), .second, .val (.int p2), .val (.long p5), .second, .val (.int p7), .val (.long p8), .second, .val (.int p10), .unset, .unset] [(.int (1 : Int32))])) := fun t k => G28 t (by
        refine XS.ifNo X0.here hx rfl (hb hby at_111) rfl ((if0 _ _).trans (flt (fun q => hc29 ((lw_lt _ _).mp q))).1) ?_
        show Steps p.tables e below (s₁.setTop (mkF m 114 #[.val (.long q0), .second, .val (.long q1), .second, .val (.int p2), .val (.long p5), .second, .val (.int p7), .val (.long p8), .second, .val (.int p10), .unset, .unset] [])) _
        refine XS.iconst X0.here hx rfl (hb hby at_114) ?_
        show Steps p.tables e below (s₁.setTop (mkF m 115 #[.val (.long q0), .second, .val (.long q1), .second, .val (.int p2), .val (.long p5), .second, .val (.int p7), .val (.long p8), .second, .val (.int p10), .unset, .unset] [(.int (1 : Int32))])) _
        refine XS.goto X0.here hx rfl (pc0 := 115) (pc' := 119) rfl (hb hby at_115) (by decide) (by decide) ?_
        show Steps p.tables e below (s₁.setTop (mkF m 119 #[.val (.long q0), .second, .val (.long q1), .second, .val (.int p2), .val (.long p5), .second, .val (.int p7), .val (.long p8), .second, .val (.int p10), .unset, .unset] [(.int (1 : Int32))])) _
        exact k)
      exact ⟨(1 : Int32), (by simp [own_b, hc29]), G31⟩
  subst hG27
  have G32 : Go p e below A0 (s₁.setTop (mkF m 121 #[.val (.long q0), .second, .val (.long q1), .second, .val (.int p2), .val (.long p5), .second, .val (.int p7), .val (.long p8), .second, .val (.int p10), .val (.int (own_b (¬ p5 < (4294966272 : Int64)))), .unset] [])) := fun t k => G27 t (by
    refine XS.istore X0.here hx rfl (hb hby at_119) rfl (l' := #[.val (.long q0), .second, .val (.long q1), .second, .val (.int p2), .val (.long p5), .second, .val (.int p7), .val (.long p8), .second, .val (.int p10), .val (.int (own_b (¬ p5 < (4294966272 : Int64)))), .unset]) rfl ?_
    show Steps p.tables e below (s₁.setTop (mkF m 121 #[.val (.long q0), .second, .val (.long q1), .second, .val (.int p2), .val (.long p5), .second, .val (.int p7), .val (.long p8), .second, .val (.int p10), .val (.int (own_b (¬ p5 < (4294966272 : Int64)))), .unset] [])) _
    exact k)
  obtain ⟨v150, hG33, G33⟩ : ∃ (v150 : Int32), (v150 = own_b ((p8 - p5) = (1 : Int64) ∨ (¬ p5 < (4294966272 : Int64)) ∧ ¬ (1023 : Int64) < p8)) ∧ Go p e below A0 (s₁.setTop (mkF m 150 #[.val (.long q0), .second, .val (.long q1), .second, .val (.int p2), .val (.long p5), .second, .val (.int p7), .val (.long p8), .second, .val (.int p10), .val (.int (own_b (¬ p5 < (4294966272 : Int64)))), .unset] [(.int v150)])) := by
    have G34 : Go p e below A0 (s₁.setTop (mkF m 128 #[.val (.long q0), .second, .val (.long q1), .second, .val (.int p2), .val (.long p5), .second, .val (.int p7), .val (.long p8), .second, .val (.int p10), .val (.int (own_b (¬ p5 < (4294966272 : Int64)))), .unset] [(.int (lcmpW (p8 - p5) (1 : Int64)))])) := fun t k => G32 t (by
      refine XS.lload X0.here hx rfl (hb hby at_121) rfl ?_
      show Steps p.tables e below (s₁.setTop (mkF m 123 #[.val (.long q0), .second, .val (.long q1), .second, .val (.int p2), .val (.long p5), .second, .val (.int p7), .val (.long p8), .second, .val (.int p10), .val (.int (own_b (¬ p5 < (4294966272 : Int64)))), .unset] [(.long p8)])) _
      refine XS.lload X0.here hx rfl (hb hby at_123) rfl ?_
      show Steps p.tables e below (s₁.setTop (mkF m 125 #[.val (.long q0), .second, .val (.long q1), .second, .val (.int p2), .val (.long p5), .second, .val (.int p7), .val (.long p8), .second, .val (.int p10), .val (.int (own_b (¬ p5 < (4294966272 : Int64)))), .unset] [(.long p5), (.long p8)])) _
      refine XS.lsub X0.here hx rfl (hb hby at_125) rfl ?_
      show Steps p.tables e below (s₁.setTop (mkF m 126 #[.val (.long q0), .second, .val (.long q1), .second, .val (.int p2), .val (.long p5), .second, .val (.int p7), .val (.long p8), .second, .val (.int p10), .val (.int (own_b (¬ p5 < (4294966272 : Int64)))), .unset] [(.long (p8 - p5))])) _
      refine XS.lconst X0.here hx rfl (hb hby at_126) ?_
      show Steps p.tables e below (s₁.setTop (mkF m 127 #[.val (.long q0), .second, .val (.long q1), .second, .val (.int p2), .val (.long p5), .second, .val (.int p7), .val (.long p8), .second, .val (.int p10), .val (.int (own_b (¬ p5 < (4294966272 : Int64)))), .unset] [(.long (1 : Int64)), (.long (p8 - p5))])) _
      refine XS.lcmp X0.here hx rfl (hb hby at_127) rfl ?_
      show Steps p.tables e below (s₁.setTop (mkF m 128 #[.val (.long q0), .second, .val (.long q1), .second, .val (.int p2), .val (.long p5), .second, .val (.int p7), .val (.long p8), .second, .val (.int p10), .val (.int (own_b (¬ p5 < (4294966272 : Int64)))), .unset] [(.int (lcmpW (p8 - p5) (1 : Int64)))])) _
      exact k)
    by_cases hc35 : (p8 - p5) = (1 : Int64)
    · have G36 : Go p e below A0 (s₁.setTop (mkF m 150 #[.val (.long q0), .second, .val (.long q1), .second, .val (.int p2), .val (.long p5), .second, .val (.int p7), .val (.long p8), .second, .val (.int p10), .val (.int (own_b (¬ p5 < (4294966272 : Int64)))), .unset] [(.int (1 : Int32))])) := fun t k => G34 t (by
        refine XS.ifYes X0.here hx rfl (pc0 := 128) (pc' := 145) rfl (hb hby at_128) rfl ((if0 _ _).trans (teq ((lw_eq _ _).mpr hc35)).1) (by decide) (by decide) ?_
        show Steps p.tables e below (s₁.setTop (mkF m 145 #[.val (.long q0), .second, .val (.long q1), .second, .val (.int p2), .val (.long p5), .second, .val (.int p7), .val (.long p8), .second, .val (.int p10), .val (.int (own_b (¬ p5 < (4294966272 : Int64)))), .unset] [])) _
        refine XS.iconst X0.here hx rfl (hb hby at_145) ?_
        show Steps p.tables e below (s₁.setTop (mkF m 146 #[.val (.long q0), .second, .val (.long q1), .second, .val (.int p2), .val (.long p5), .second, .val (.int p7), .val (.long p8), .second, .val (.int p10), .val (.int (own_b (¬ p5 < (4294966272 : Int64)))), .unset] [(.int (1 : Int32))])) _
        refine XS.goto X0.here hx rfl (pc0 := 146) (pc' := 150) rfl (hb hby at_146) (by decide) (by decide) ?_
        show Steps p.tables e below (s₁.setTop (mkF m 150 #[.val (.long q0), .second, .val (.long q1), .second, .val (.int p2), .val (.long p5), .second, .val (.int p7), .val (.long p8), .second, .val (.int p10), .val (.int (own_b (¬ p5 < (4294966272 : Int64)))), .unset] [(.int (1 : Int32))])) _
        exact k)
      exact ⟨(1 : Int32), (by simp [own_b, hc35]), G36⟩
    · have G37 : Go p e below A0 (s₁.setTop (mkF m 133 #[.val (.long q0), .second, .val (.long q1), .second, .val (.int p2), .val (.long p5), .second, .val (.int p7), .val (.long p8), .second, .val (.int p10), .val (.int (own_b (¬ p5 < (4294966272 : Int64)))), .unset] [(.int (own_b (¬ p5 < (4294966272 : Int64))))])) := fun t k => G34 t (by
        refine XS.ifNo X0.here hx rfl (hb hby at_128) rfl ((if0 _ _).trans (feq (fun q => hc35 ((lw_eq _ _).mp q))).1) ?_
        show Steps p.tables e below (s₁.setTop (mkF m 131 #[.val (.long q0), .second, .val (.long q1), .second, .val (.int p2), .val (.long p5), .second, .val (.int p7), .val (.long p8), .second, .val (.int p10), .val (.int (own_b (¬ p5 < (4294966272 : Int64)))), .unset] [])) _
        refine XS.iload X0.here hx rfl (hb hby at_131) rfl ?_
        show Steps p.tables e below (s₁.setTop (mkF m 133 #[.val (.long q0), .second, .val (.long q1), .second, .val (.int p2), .val (.long p5), .second, .val (.int p7), .val (.long p8), .second, .val (.int p10), .val (.int (own_b (¬ p5 < (4294966272 : Int64)))), .unset] [(.int (own_b (¬ p5 < (4294966272 : Int64))))])) _
        exact k)
      by_cases hc38 : (¬ p5 < (4294966272 : Int64))
      · have G39 : Go p e below A0 (s₁.setTop (mkF m 142 #[.val (.long q0), .second, .val (.long q1), .second, .val (.int p2), .val (.long p5), .second, .val (.int p7), .val (.long p8), .second, .val (.int p10), .val (.int (own_b (¬ p5 < (4294966272 : Int64)))), .unset] [(.int (lcmpW p8 (1023 : Int64)))])) := fun t k => G37 t (by
          refine XS.ifNo X0.here hx rfl (hb hby at_133) rfl ((if0 _ _).trans (feq (own_b1 hc38)).1) ?_
          show Steps p.tables e below (s₁.setTop (mkF m 136 #[.val (.long q0), .second, .val (.long q1), .second, .val (.int p2), .val (.long p5), .second, .val (.int p7), .val (.long p8), .second, .val (.int p10), .val (.int (own_b (¬ p5 < (4294966272 : Int64)))), .unset] [])) _
          refine XS.lload X0.here hx rfl (hb hby at_136) rfl ?_
          show Steps p.tables e below (s₁.setTop (mkF m 138 #[.val (.long q0), .second, .val (.long q1), .second, .val (.int p2), .val (.long p5), .second, .val (.int p7), .val (.long p8), .second, .val (.int p10), .val (.int (own_b (¬ p5 < (4294966272 : Int64)))), .unset] [(.long p8)])) _
          refine X0.ldc2Long hx hown (mvT hZ (hw _ (List.mem_of_getElem? (i := 10) rfl))) (g := (mkF m 138 #[.val (.long q0), .second, .val (.long q1), .second, .val (.int p2), .val (.long p5), .second, .val (.int p7), .val (.long p8), .second, .val (.int p10), .val (.int (own_b (¬ p5 < (4294966272 : Int64)))), .unset] [(.long p8)])) rfl (hb hby at_138) _ ?_
          show Steps p.tables e below (s₁.setTop (mkF m 141 #[.val (.long q0), .second, .val (.long q1), .second, .val (.int p2), .val (.long p5), .second, .val (.int p7), .val (.long p8), .second, .val (.int p10), .val (.int (own_b (¬ p5 < (4294966272 : Int64)))), .unset] [(.long (1023 : Int64)), (.long p8)])) _
          refine XS.lcmp X0.here hx rfl (hb hby at_141) rfl ?_
          show Steps p.tables e below (s₁.setTop (mkF m 142 #[.val (.long q0), .second, .val (.long q1), .second, .val (.int p2), .val (.long p5), .second, .val (.int p7), .val (.long p8), .second, .val (.int p10), .val (.int (own_b (¬ p5 < (4294966272 : Int64)))), .unset] [(.int (lcmpW p8 (1023 : Int64)))])) _
          exact k)
        by_cases hc40 : (1023 : Int64) < p8
        · have G41 : Go p e below A0 (s₁.setTop (mkF m 150 #[.val (.long q0), .second, .val (.long q1), .second, .val (.int p2), .val (.long p5), .second, .val (.int p7), .val (.long p8), .second, .val (.int p10), .val (.int (own_b (¬ p5 < (4294966272 : Int64)))), .unset] [(.int (0 : Int32))])) := fun t k => G39 t (by
            refine XS.ifYes X0.here hx rfl (pc0 := 142) (pc' := 149) rfl (hb hby at_142) rfl ((if0 _ _).trans (tlt ((lw_gt _ _).mpr hc40)).2.2.1) (by decide) (by decide) ?_
            show Steps p.tables e below (s₁.setTop (mkF m 149 #[.val (.long q0), .second, .val (.long q1), .second, .val (.int p2), .val (.long p5), .second, .val (.int p7), .val (.long p8), .second, .val (.int p10), .val (.int (own_b (¬ p5 < (4294966272 : Int64)))), .unset] [])) _
            refine XS.iconst X0.here hx rfl (hb hby at_149) ?_
            show Steps p.tables e below (s₁.setTop (mkF m 150 #[.val (.long q0), .second, .val (.long q1), .second, .val (.int p2), .val (.long p5), .second, .val (.int p7), .val (.long p8), .second, .val (.int p10), .val (.int (own_b (¬ p5 < (4294966272 : Int64)))), .unset] [(.int (0 : Int32))])) _
            exact k)
          exact ⟨(0 : Int32), (by simp [own_b, hc35, hc38, hc40]), G41⟩
        · have G42 : Go p e below A0 (s₁.setTop (mkF m 150 #[.val (.long q0), .second, .val (.long q1), .second, .val (.int p2), .val (.long p5), .second, .val (.int p7), .val (.long p8), .second, .val (.int p10), .val (.int (own_b (¬ p5 < (4294966272 : Int64)))), .unset] [(.int (1 : Int32))])) := fun t k => G39 t (by
            refine XS.ifNo X0.here hx rfl (hb hby at_142) rfl ((if0 _ _).trans (flt (fun q => hc40 ((lw_gt _ _).mp q))).2.2.1) ?_
            show Steps p.tables e below (s₁.setTop (mkF m 145 #[.val (.long q0), .second, .val (.long q1), .second, .val (.int p2), .val (.long p5), .second, .val (.int p7), .val (.long p8), .second, .val (.int p10), .val (.int (own_b (¬ p5 < (4294966272 : Int64)))), .unset] [])) _
            refine XS.iconst X0.here hx rfl (hb hby at_145) ?_
            show Steps p.tables e below (s₁.setTop (mkF m 146 #[.val (.long q0), .second, .val (.long q1), .second, .val (.int p2), .val (.long p5), .second, .val (.int p7), .val (.long p8), .second, .val (.int p10), .val (.int (own_b (¬ p5 < (4294966272 : Int64)))), .unset] [(.int (1 : Int32))])) _
            refine XS.goto X0.here hx rfl (pc0 := 146) (pc' := 150) rfl (hb hby at_146) (by decide) (by decide) ?_
            show Steps p.tables e below (s₁.setTop (mkF m 150 #[.val (.long q0), .second, .val (.long q1), .second, .val (.int p2), .val (.long p5), .second, .val (.int p7), .val (.long p8), .second, .val (.int p10), .val (.int (own_b (¬ p5 < (4294966272 : Int64)))), .unset] [(.int (1 : Int32))])) _
            exact k)
          exact ⟨(1 : Int32), (by simp [own_b, hc35, hc38, hc40]), G42⟩
      · have G43 : Go p e below A0 (s₁.setTop (mkF m 150 #[.val (.long q0), .second, .val (.long q1), .second, .val (.int p2), .val (.long p5), .second, .val (.int p7), .val (.long p8), .second, .val (.int p10), .val (.int (own_b (¬ p5 < (4294966272 : Int64)))), .unset] [(.int (0 : Int32))])) := fun t k => G37 t (by
          refine XS.ifYes X0.here hx rfl (pc0 := 133) (pc' := 149) rfl (hb hby at_133) rfl ((if0 _ _).trans (teq (own_b0 hc38)).1) (by decide) (by decide) ?_
          show Steps p.tables e below (s₁.setTop (mkF m 149 #[.val (.long q0), .second, .val (.long q1), .second, .val (.int p2), .val (.long p5), .second, .val (.int p7), .val (.long p8), .second, .val (.int p10), .val (.int (own_b (¬ p5 < (4294966272 : Int64)))), .unset] [])) _
          refine XS.iconst X0.here hx rfl (hb hby at_149) ?_
          show Steps p.tables e below (s₁.setTop (mkF m 150 #[.val (.long q0), .second, .val (.long q1), .second, .val (.int p2), .val (.long p5), .second, .val (.int p7), .val (.long p8), .second, .val (.int p10), .val (.int (own_b (¬ p5 < (4294966272 : Int64)))), .unset] [(.int (0 : Int32))])) _
          exact k)
        exact ⟨(0 : Int32), (by simp [own_b, hc35, hc38]), G43⟩
  subst hG33
  have G44 : Go p e below A0 (s₁.setTop (mkF m 156 #[.val (.long q0), .second, .val (.long q1), .second, .val (.int p2), .val (.long p5), .second, .val (.int p7), .val (.long p8), .second, .val (.int p10), .val (.int (own_b (¬ p5 < (4294966272 : Int64)))), .val (.int (own_b ((p8 - p5) = (1 : Int64) ∨ (¬ p5 < (4294966272 : Int64)) ∧ ¬ (1023 : Int64) < p8)))] [(.long p8), (.long p5)])) := fun t k => G33 t (by
    refine XS.istore X0.here hx rfl (hb hby at_150) rfl (l' := #[.val (.long q0), .second, .val (.long q1), .second, .val (.int p2), .val (.long p5), .second, .val (.int p7), .val (.long p8), .second, .val (.int p10), .val (.int (own_b (¬ p5 < (4294966272 : Int64)))), .val (.int (own_b ((p8 - p5) = (1 : Int64) ∨ (¬ p5 < (4294966272 : Int64)) ∧ ¬ (1023 : Int64) < p8)))]) rfl ?_
    show Steps p.tables e below (s₁.setTop (mkF m 152 #[.val (.long q0), .second, .val (.long q1), .second, .val (.int p2), .val (.long p5), .second, .val (.int p7), .val (.long p8), .second, .val (.int p10), .val (.int (own_b (¬ p5 < (4294966272 : Int64)))), .val (.int (own_b ((p8 - p5) = (1 : Int64) ∨ (¬ p5 < (4294966272 : Int64)) ∧ ¬ (1023 : Int64) < p8)))] [])) _
    refine XS.lload X0.here hx rfl (hb hby at_152) rfl ?_
    show Steps p.tables e below (s₁.setTop (mkF m 154 #[.val (.long q0), .second, .val (.long q1), .second, .val (.int p2), .val (.long p5), .second, .val (.int p7), .val (.long p8), .second, .val (.int p10), .val (.int (own_b (¬ p5 < (4294966272 : Int64)))), .val (.int (own_b ((p8 - p5) = (1 : Int64) ∨ (¬ p5 < (4294966272 : Int64)) ∧ ¬ (1023 : Int64) < p8)))] [(.long p5)])) _
    refine XS.lload X0.here hx rfl (hb hby at_154) rfl ?_
    show Steps p.tables e below (s₁.setTop (mkF m 156 #[.val (.long q0), .second, .val (.long q1), .second, .val (.int p2), .val (.long p5), .second, .val (.int p7), .val (.long p8), .second, .val (.int p10), .val (.int (own_b (¬ p5 < (4294966272 : Int64)))), .val (.int (own_b ((p8 - p5) = (1 : Int64) ∨ (¬ p5 < (4294966272 : Int64)) ∧ ¬ (1023 : Int64) < p8)))] [(.long p8), (.long p5)])) _
    exact k)
  obtain ⟨_, _, ⟨T45, L45, k45, n45⟩, -, X45, ⟨Lc45, hQ45, l45, y45, z45⟩, st45⟩ := Jvm.LawKit.callS X0 hx (y := (⟨"com/example/halyard/halyard/transport/SequenceNumbers", "follows", "(JJ)Z"⟩ : MethodName)) hown (mvT hZ (hw _ (List.mem_of_getElem? (i := 2) rfl))) (mvT hZ (hw _ (List.mem_of_getElem? (i := 3) rfl))) (mvT hZ (hw _ (List.mem_of_getElem? (i := 4) rfl))) (mvT hZ (hw _ (List.mem_of_getElem? (i := 5) rfl))) (by decide) (backOf (W := 0) (rm1 l Z a0 hw [] p5 p8 h0 n0 Z0) hZ (hw _ (List.mem_of_getElem? (i := 5) rfl)) (hw _ (List.mem_of_getElem? (i := 4) rfl)) (by decide) (by decide)) (g := (mkF m 156 #[.val (.long q0), .second, .val (.long q1), .second, .val (.int p2), .val (.long p5), .second, .val (.int p7), .val (.long p8), .second, .val (.int p10), .val (.int (own_b (¬ p5 < (4294966272 : Int64)))), .val (.int (own_b ((p8 - p5) = (1 : Int64) ∨ (¬ p5 < (4294966272 : Int64)) ∧ ¬ (1023 : Int64) < p8)))] [(.long p8), (.long p5)])) rfl (by rw [hml]; rfl) (argsL := [(.long p5), (.long p8)]) (rest := []) (lenOf pd_0 rfl) rfl (by show 2 * 0 + _ ≤ _; exact Nat.le_of_eq rfl) (hb hby at_156) (fun _ _ => ⟨rfl, e0, (by decide : 0 + 0 ≤ _), (by decide : 0 + 0 ≤ _)⟩)
  dsimp only [Pt.U, Pt.locs, Pt.cells, Pt.slots] at X45 l45 y45 z45 st45 hQ45
  subst l45 y45 z45
  obtain ⟨rfl, N45q, e45⟩ := hQ45
  have N45 := Fr.app N0 N45q
  have G46 : Go p e below A0 (T45.setTop (mkF m 159 #[.val (.long q0), .second, .val (.long q1), .second, .val (.int p2), .val (.long p5), .second, .val (.int p7), .val (.long p8), .second, .val (.int p10), .val (.int (own_b (¬ p5 < (4294966272 : Int64)))), .val (.int (own_b ((p8 - p5) = (1 : Int64) ∨ (¬ p5 < (4294966272 : Int64)) ∧ ¬ (1023 : Int64) < p8)))] [(.int (own_b (p8 = p5 + (1 : Int64) ∨ ((4294966271 : Int64) < p5 ∧ p8 < (1024 : Int64)))))])) := fun t k => G44 t (st45 _ k)
  have G47 : Go p e below A0 (T45.setTop (mkF m 161 #[.val (.long q0), .second, .val (.long q1), .second, .val (.int p2), .val (.long p5), .second, .val (.int p7), .val (.long p8), .second, .val (.int p10), .val (.int (own_b (¬ p5 < (4294966272 : Int64)))), .val (.int (own_b ((p8 - p5) = (1 : Int64) ∨ (¬ p5 < (4294966272 : Int64)) ∧ ¬ (1023 : Int64) < p8)))] [(.int (own_b ((p8 - p5) = (1 : Int64) ∨ (¬ p5 < (4294966272 : Int64)) ∧ ¬ (1023 : Int64) < p8))), (.int (own_b (p8 = p5 + (1 : Int64) ∨ ((4294966271 : Int64) < p5 ∧ p8 < (1024 : Int64)))))])) := fun t k => G46 t (by
    refine XS.iload X45.here hx rfl (hb hby at_159) rfl ?_
    show Steps p.tables e below (T45.setTop (mkF m 161 #[.val (.long q0), .second, .val (.long q1), .second, .val (.int p2), .val (.long p5), .second, .val (.int p7), .val (.long p8), .second, .val (.int p10), .val (.int (own_b (¬ p5 < (4294966272 : Int64)))), .val (.int (own_b ((p8 - p5) = (1 : Int64) ∨ (¬ p5 < (4294966272 : Int64)) ∧ ¬ (1023 : Int64) < p8)))] [(.int (own_b ((p8 - p5) = (1 : Int64) ∨ (¬ p5 < (4294966272 : Int64)) ∧ ¬ (1023 : Int64) < p8))), (.int (own_b (p8 = p5 + (1 : Int64) ∨ ((4294966271 : Int64) < p5 ∧ p8 < (1024 : Int64)))))])) _
    exact k)
  have hfin : (own_b (p8 = p5 + (1 : Int64) ∨ ((4294966271 : Int64) < p5 ∧ p8 < (1024 : Int64)))) = (own_b ((p8 - p5) = (1 : Int64) ∨ (¬ p5 < (4294966272 : Int64)) ∧ ¬ (1023 : Int64) < p8)) := own_beq (own_same p5 p8)
  have G48 : Go p e below A0 (T45.setTop (mkF m 169 #[.val (.long q0), .second, .val (.long q1), .second, .val (.int p2), .val (.long p5), .second, .val (.int p7), .val (.long p8), .second, .val (.int p10), .val (.int (own_b (¬ p5 < (4294966272 : Int64)))), .val (.int (own_b ((p8 - p5) = (1 : Int64) ∨ (¬ p5 < (4294966272 : Int64)) ∧ ¬ (1023 : Int64) < p8)))] [(.int (1 : Int32))])) := fun t k => G47 t (by
    refine XS.icmpNo X45.here hx rfl (hb hby at_161) rfl (teq hfin).2 ?_
    show Steps p.tables e below (T45.setTop (mkF m 164 #[.val (.long q0), .second, .val (.long q1), .second, .val (.int p2), .val (.long p5), .second, .val (.int p7), .val (.long p8), .second, .val (.int p10), .val (.int (own_b (¬ p5 < (4294966272 : Int64)))), .val (.int (own_b ((p8 - p5) = (1 : Int64) ∨ (¬ p5 < (4294966272 : Int64)) ∧ ¬ (1023 : Int64) < p8)))] [])) _
    refine XS.iconst X45.here hx rfl (hb hby at_164) ?_
    show Steps p.tables e below (T45.setTop (mkF m 165 #[.val (.long q0), .second, .val (.long q1), .second, .val (.int p2), .val (.long p5), .second, .val (.int p7), .val (.long p8), .second, .val (.int p10), .val (.int (own_b (¬ p5 < (4294966272 : Int64)))), .val (.int (own_b ((p8 - p5) = (1 : Int64) ∨ (¬ p5 < (4294966272 : Int64)) ∧ ¬ (1023 : Int64) < p8)))] [(.int (1 : Int32))])) _
    refine XS.goto X45.here hx rfl (pc0 := 165) (pc' := 169) rfl (hb hby at_165) (by decide) (by decide) ?_
    show Steps p.tables e below (T45.setTop (mkF m 169 #[.val (.long q0), .second, .val (.long q1), .second, .val (.int p2), .val (.long p5), .second, .val (.int p7), .val (.long p8), .second, .val (.int p10), .val (.int (own_b (¬ p5 < (4294966272 : Int64)))), .val (.int (own_b ((p8 - p5) = (1 : Int64) ∨ (¬ p5 < (4294966272 : Int64)) ∧ ¬ (1023 : Int64) < p8)))] [(.int (1 : Int32))])) _
    exact k)
  obtain ⟨fs, hr, hrun, hended, hW, hsame⟩ := X45.leave (v := some (.int (nar .boolean (1 : Int32)))) (fun h => by rw [Bd.returns] at h; cases h)
  refine ⟨_, _, (by rw [← hA0]; exact G48 _ (retN X45 hx (t := .boolean) Bd.returns (by simp) (hb hby at_169) hr)), hrun, hended, _, _, rfl, ?_, ⟨_, rfl⟩, hW, hsame.mono (by decide) (by decide)⟩
  exact ⟨rfl, N45⟩
set_option maxRecDepth 65536 in
set_option maxHeartbeats 40000000 in
theorem comes_1 {Post : Tables → Env → Array Value → State → Outcome → State → Prop} (hpost : ∀ tb e args s v u, (limb_1_1.after args s (.returned v) u = true ∧ limb_1_2.after args s (.returned v) u = true ∧ True) → FrameEnd s (.returned v) u (Jvm.fieldLocs frame_1_writes args s ++ Jvm.arrayLocs frame_1_arrays args s ++ Jvm.staticLocs frame_1_statics s) 0 0 → Post tb e args s (.returned v) u) :
    ArmFor flags0 classFile x code maxLocals ret World_1 tables_1 room_1 Calls_1 rest_1 Pre_1 Post := by
  intro l hfl _ _ p e ha hc hk s m args below hf hA hF happ hP
  obtain ⟨hcalls, hrest, hpre⟩ := hP
  obtain ⟨-, -, -, hnamed, -, -, -, hat⟩ := (Spec.applies_iff hf).mp happ
  obtain ⟨hg, hn⟩ := and_e (Cond.before_iff.mp (show (Jvm.Cond.and given_1 narrow_1).before args s = true from hpre))
  obtain ⟨g1, g2⟩ := and_e hg
  obtain ⟨g3, g4⟩ := and_e g2
  obtain ⟨g5, g6⟩ := and_e g4
  obtain ⟨w0, w1, w2, rfl⟩ : ∃ w0 w1 w2 : Value, args = #[w0, w1, w2] := by
    have hs : args.size = 3 := by simpa [Cond.value, given_1] using g1
    obtain ⟨L⟩ := args
    match L, hs with
    | [w0, w1, w2], _ => exact ⟨w0, w1, w2, rfl⟩
  have hw := fun d (hd : d ∈ tables_1) => atoms_spec (ws := Jvm.Cond.code x code maxLocals ret :: tables_1) hat d (List.mem_cons_of_mem _ hd)
  have hfit : Fit s := fun {y c} hc i hi => by
    obtain ⟨ha, rfl⟩ := Array.getElem?_eq_some_iff.mp hc
    have q := List.all_eq_true.mp ((Array.all_eq_true_iff_forall_mem.mp hF) _ (Array.getElem_mem ha)) i (List.mem_range.mpr hi)
    simpa [Array.getElem?_eq_getElem hi] using q
  obtain ⟨i0, ei0⟩ := isL_v g3
  obtain rfl : w0 = (.long i0) := Option.some.inj ei0
  obtain ⟨i1, ei1⟩ := isL_v g5
  obtain rfl : w1 = (.long i1) := Option.some.inj ei1
  obtain ⟨i2, ei2⟩ := is_v g6
  obtain rfl : w2 = (.int i2) := Option.some.inj ei2
  obtain ⟨n, o, h1, h2, h3, _, L, rfl, ⟨rfl, N⟩, hq⟩ := rm0 l s _ hw tables_1 i0 i1 i2  s.heap s.heap.size (Nat.le_refl _)  p e ha hc hk s m _ below hf ((Spec.applies_iff_loose hf).mp happ).1 ⟨rfl, State.Warmed39.refl s, rfl⟩ trivial
  refine ⟨n, _, h1, h2, h3, hpost _ _ _ _ _ _ ⟨Cond.after_iff.mpr rfl, Cond.after_iff.mpr (eq_i res_at (Term.int_eval (1)) rfl), trivial⟩ ⟨hq.1, hq.2.1, (hq.2.2.sift fun y hy => Or.inr (N y hy)).mono (by decide) (by decide)⟩⟩
theorem main_1_1 : Claimed_1_1 := comes_1 fun _ _ _ _ _ _ h hF => ⟨h.1, hF⟩
theorem main_1_2 : Claimed_1_2 := comes_1 fun _ _ _ _ _ _ h hF => ⟨h.2.1, hF⟩
end Jvm.Pilot.@@N@@
namespace Jvm.Pilot.@@N@@
open Jvm Jvm.ClassFile Sem Op Lib Jvm.Free Jvm.Stand Jvm.Pilot.@@N@@.Jvm.D
/-! MADE BY PROGRAM (witnessworld.py) out of the Statement's table words and the real class files: 9 classes; the members and pool entries that the words name. The judged class is class 1, her method 1. -/
namespace start1
open Jvm.ClassFile
def u (s : String) : CpInfo := .utf8 (stringToUtf16 s)
/-- a pool by its gaps: so many unusable entries, then the entry; so many at the end -/
def gap : Nat → List CpInfo → List CpInfo
  | 0, r => r
  | n + 1, r => .unusable :: gap n r
def poolList (es : List (Nat × CpInfo)) (last : Nat) : List CpInfo := es.foldr (fun e r => gap e.1 (e.2 :: r)) (gap last [])
def pool (es : List (Nat × CpInfo)) (last : Nat) : Array CpInfo := ⟨poolList es last⟩
def fileOf (pool : Array CpInfo) (this : Nat) (attrs : Array Attribute := #[]) (ms : Array MethodInfo := #[]) (fl : Nat := 33) (sup : Nat := 0) (ifs : Array Nat := #[]) (fds : Array FieldInfo := #[]) : ClassFile where
  minorVersion := 0
  majorVersion := 65
  constantPool := pool
  accessFlags := fl
  thisClass := this
  superClass := sup
  interfaces := ifs
  fields := fds
  methods := ms
  attributes := attrs
def plain (name : String) (sup : Option ClassId) : Class where
  name := name
  kind := .ordinary
  loader := none
  accessFlags := 33
  super := sup
  interfaces := #[]
  cf := none
  fields := #[]
  methods := #[]
  instanceTypes := #[]
  staticTypes := #[]
  resolved := #[]
  callSites := []
  init := .initialized
  statics := none
  mirror := none

def pool0 : Array CpInfo := pool [(5, u "<init>"), (0, u "()V"), (1, .class_ 10), (1, u "java/lang/Object")] 113

def k0m0 : Method := { name := "<init>", desc := "()V", sig := { parameters := [], returnType := none }, accessFlags := 1, code := none }
/-- java/lang/Object -/
def k0 : Class := { plain "java/lang/Object" none with
  accessFlags := 33
  interfaces := #[]
  cf := some (fileOf pool0 8 #[] #[{ accessFlags := 1, nameIndex := 5, descriptorIndex := 6, attributes := #[] }] 33 0 #[] #[])
  fields := #[]
  methods := #[k0m0]
  instanceTypes := #[]
  staticTypes := #[]
  resolved := Array.replicate 124 none
  statics := none }

def pool1 : Array CpInfo := pool [(2, .class_ 4), (1, u "java/lang/Object"), (0, u "<init>"), (0, u "()V"), (0, .long 4294967295), (1, .long 2047), (1, .long 7), (1, .long 3), (1, .long 4294966272), (1, .long 1023), (1, .methodref 20 21), (0, .class_ 22), (0, .nameAndType 23 24), (0, u "com/example/halyard/halyard/transport/SequenceNumbers"), (0, u "follows"), (0, u "(JJ)Z"), (0, .class_ 26), (0, u "com/example/halyard/halyard/transport/SequenceNumbersFollowsPinLaw"), (2, u "law"), (0, u "(JJI)Z")] 3

def k1m0 : Method := { name := "<init>", desc := "()V", sig := { parameters := [], returnType := none }, accessFlags := 1, code := none }
def k1c1 : Code := { maxStack := 6, maxLocals := 13, code := code, exceptionTable := #[], attributes := #[] }
def k1m1 : Method := { name := "law", desc := "(JJI)Z", sig := { parameters := [.long, .long, .int], returnType := some .boolean }, accessFlags := 9, code := some k1c1 }
/-- com/example/halyard/halyard/transport/SequenceNumbersFollowsPinLaw -/
def k1 : Class := { plain "com/example/halyard/halyard/transport/SequenceNumbersFollowsPinLaw" (some 0) with
  accessFlags := 49
  interfaces := #[]
  cf := some (fileOf pool1 25 #[] #[{ accessFlags := 1, nameIndex := 5, descriptorIndex := 6, attributes := #[] }, { accessFlags := 9, nameIndex := 29, descriptorIndex := 30, attributes := #[] }] 49 2 #[] #[])
  fields := #[]
  methods := #[k1m0, k1m1]
  instanceTypes := #[]
  staticTypes := #[]
  resolved := Array.replicate 34 none
  statics := none }

def pool2 : Array CpInfo := pool [(2, .class_ 4), (1, u "java/lang/Object"), (0, u "<init>"), (0, u "()V"), (0, .class_ 8), (0, u "com/example/halyard/halyard/transport/SequenceNumbers"), (0, .long 4294966271), (1, .long 1024), (1, u "WRAP_THRESHOLD"), (0, u "J"), (1, u "FIRST_AFTER_WRAP_LIMIT"), (5, u "follows"), (0, u "(JJ)Z")] 2

def k2m0 : Method := { name := "<init>", desc := "()V", sig := { parameters := [], returnType := none }, accessFlags := 2, code := none }
def k2c1 : Code := { maxStack := 6, maxLocals := 4, code := prog_139_method_3_code, exceptionTable := #[], attributes := #[] }
def k2m1 : Method := { name := "follows", desc := "(JJ)Z", sig := { parameters := [.long, .long], returnType := some .boolean }, accessFlags := 8, code := some k2c1 }
/-- com/example/halyard/halyard/transport/SequenceNumbers -/
def k2 : Class := { plain "com/example/halyard/halyard/transport/SequenceNumbers" (some 0) with
  accessFlags := 48
  interfaces := #[]
  cf := some (fileOf pool2 7 #[] #[{ accessFlags := 2, nameIndex := 5, descriptorIndex := 6, attributes := #[] }, { accessFlags := 8, nameIndex := 22, descriptorIndex := 23, attributes := #[] }] 48 2 #[] #[{ accessFlags := 26, nameIndex := 13, descriptorIndex := 14, attributes := #[] }, { accessFlags := 26, nameIndex := 16, descriptorIndex := 14, attributes := #[] }])
  fields := #[{ name := "WRAP_THRESHOLD", type := .long, accessFlags := 26, slot := 0, constantValue := 0 }, { name := "FIRST_AFTER_WRAP_LIMIT", type := .long, accessFlags := 26, slot := 1, constantValue := 0 }]
  methods := #[k2m0, k2m1]
  instanceTypes := #[]
  staticTypes := #[.long, .long]
  resolved := Array.replicate 26 none
  statics := none }

def pool3 : Array CpInfo := pool [(1, u "java/lang/Cloneable"), (0, .class_ 1), (0, u "java/lang/Object"), (0, .class_ 3)] 3

/-- java/lang/Cloneable -/
def k3 : Class := { plain "java/lang/Cloneable" (some 0) with
  accessFlags := 1537
  interfaces := #[]
  cf := some (fileOf pool3 2 #[] #[] 1537 4 #[] #[])
  fields := #[]
  methods := #[]
  instanceTypes := #[]
  staticTypes := #[]
  resolved := Array.replicate 8 none
  statics := none }

def pool4 : Array CpInfo := pool [(1, u "java/io/Serializable"), (0, .class_ 1), (0, u "java/lang/Object"), (0, .class_ 3)] 3

/-- java/io/Serializable -/
def k4 : Class := { plain "java/io/Serializable" (some 0) with
  accessFlags := 1537
  interfaces := #[]
  cf := some (fileOf pool4 2 #[] #[] 1537 4 #[] #[])
  fields := #[]
  methods := #[]
  instanceTypes := #[]
  staticTypes := #[]
  resolved := Array.replicate 8 none
  statics := none }

/-- the primitive byte -/
def k5 : Class := { plain "byte" none with kind := .primitive 'B', accessFlags := 0x411 }
/-- [B -/
def k6 : Class := { plain "[B" (some 0) with kind := .array 5 .byte, interfaces := #[3, 4], accessFlags := 1041 }

/-- the primitive int -/
def k7 : Class := { plain "int" none with kind := .primitive 'I', accessFlags := 0x411 }
/-- [I -/
def k8 : Class := { plain "[I" (some 0) with kind := .array 7 .int, interfaces := #[3, 4], accessFlags := 1041 }

def heap : Heap := #[]
def classes : Array Class := #[k0, k1, k2, k3, k4, k5, k6, k7, k8]
def interned : List (Array UInt16 × Addr) := []
def slotsUsed : Nat := 0
def theMethod : MethodId := ⟨1, 1⟩
def args0 : Array Value := #[.long 5, .long 6, .int 1]
def aboutOver (below : List Frame) : State where
  vm := { classes := classes, interned := interned.toArray }
  heap := heap
  slotsUsed := slotsUsed
  threads := #[{ frames := .invoking theMethod args0 :: below }]
def below0 : List Frame := [.native { method := ⟨0, 0⟩, args := #[] }]
def about1 : State := aboutOver below0
def p0 : Program := .bare "" "" ""
def e0 : Env := launch0.env 0 0 0
theorem w_frames : about1.frames = Frame.invoking theMethod args0 :: below0 := rfl
set_option maxRecDepth 65536 in
theorem w_args : argsFit about1.vm theMethod args0 = true := by decide +kernel
set_option maxRecDepth 65536 in
theorem w_heap : heapFits about1 = true := by decide +kernel
set_option maxRecDepth 65536 in
theorem w_runnable : about1.curStatus? = some .runnable := by decide +kernel
set_option maxRecDepth 65536 in
theorem w_alone : about1.alone = true := by decide +kernel
set_option maxRecDepth 65536 in
theorem w_named : about1.methodNamed? x = some theMethod := by decide +kernel
set_option maxRecDepth 65536 in
theorem w_hears : about1.hears theMethod below0 = true := by decide +kernel
set_option maxRecDepth 65536 in
theorem w_ripe : about1.ripe theMethod args0 below0 = true := by decide +kernel
theorem w_running : about1.status = .running := rfl
set_option maxRecDepth 65536 in
theorem w_room : about1.hasRoom e0.platform room_1 = true :=
  launch0.hasRoom_least _ room_1 (by decide +kernel) (by decide +kernel) (by decide +kernel) (by decide +kernel) (by decide +kernel) (by decide +kernel)
theorem allAtoms_all (ts : List Jvm.Cond) (a : Array Jvm.Value) (st : Jvm.State) : (allAtoms ts).before a st = ts.all (fun c => c.before a st) := by
  induction ts with
  | nil => rfl
  | cons c t ih =>
    show (Jvm.Cond.and c (allAtoms t)).before a st = _
    rw [Jvm.Cond.before_and, ih, List.all_cons]
def words1 : List Jvm.Cond := Jvm.Cond.code x code maxLocals ret :: tables_1
/-- a 'code' word, met by the world's own term for the bytes: nothing is compared byte by byte -/
theorem code_word {y : MethodName} {bytes : ByteArray} {mx : Nat} {rt : Option FieldType} {a : Array Value} {s : State} {m : MethodId} {meth : Method} {c : Code} (h1 : s.methodNamed? y = some m) (h2 : s.vm.method? m = some meth) (h3 : meth.code = some c) (h4 : c.code = bytes)
    (h5 : (c.maxLocals == mx && c.exceptionTable.isEmpty && decide (c.maxStack ≤ mostOperands) && decide (meth.sig.returnType = rt) && !meth.locks && decide (parseMethodDescriptor y.desc = some meth.sig)) = true) : (Jvm.Cond.code y bytes mx rt).before a s = true := by
  simp only [Bool.and_eq_true, beq_iff_eq, Bool.not_eq_true', decide_eq_true_eq] at h5
  obtain ⟨⟨⟨⟨⟨g1, g2⟩, g3⟩, g4⟩, g5⟩, g6⟩ := h5
  simp [Cond.before, Cond.holds, Cond.value, h1, h2, h3, h4, g1, g2, g3, g4, g5, g6]
def isCode : Jvm.Cond → Bool
  | .code _ _ _ _ => true
  | _ => false
theorem all_split {L : List Jvm.Cond} {P : Jvm.Cond → Bool} (h1 : L.all (fun c => isCode c || P c) = true) (h2 : ∀ c ∈ L.filter isCode, P c = true) : L.all P = true := by
  refine List.all_eq_true.mpr fun c hc => ?_
  have h := List.all_eq_true.mp h1 c hc
  rcases Bool.eq_false_or_eq_true (isCode c) with hi | hi
  · exact h2 c (List.mem_filter.mpr ⟨hc, hi⟩)
  · simpa [hi] using h
set_option maxRecDepth 65536 in
theorem w_c0 : (Jvm.Cond.code x code maxLocals ret).before args0 about1 = true := code_word (m := ⟨1, 1⟩) (meth := k1m1) (c := k1c1) (by decide +kernel) rfl rfl rfl (by decide +kernel)
set_option maxRecDepth 65536 in
theorem w_c1 : (Jvm.Cond.code ({ cls := "com/example/halyard/halyard/transport/SequenceNumbers", name := "follows", desc := "(JJ)Z" } : Jvm.MethodName) prog_139_method_3_code (4 : Nat) (Option.some Jvm.ClassFile.FieldType.boolean)).before args0 about1 = true := code_word (m := ⟨2, 1⟩) (meth := k2m1) (c := k2c1) (by decide +kernel) rfl rfl rfl (by decide +kernel)
def codes1 : List Jvm.Cond := [Jvm.Cond.code x code maxLocals ret, Jvm.Cond.code ({ cls := "com/example/halyard/halyard/transport/SequenceNumbers", name := "follows", desc := "(JJ)Z" } : Jvm.MethodName) prog_139_method_3_code (4 : Nat) (Option.some Jvm.ClassFile.FieldType.boolean)]
set_option maxRecDepth 65536 in
theorem codes_eq : words1.filter isCode = codes1 := rfl
theorem w_codes : ∀ c ∈ words1.filter isCode, c.before args0 about1 = true := by
  rw [codes_eq]
  intro c hc
  simp only [codes1, List.mem_cons, List.not_mem_nil, or_false] at hc
  rcases hc with rfl | rfl
  · exact w_c0
  · exact w_c1
set_option maxRecDepth 65536 in
theorem w_t1 : words1.all (fun c => isCode c || c.before args0 about1) = true := by decide +kernel
theorem w_tables : (allAtoms (Jvm.Cond.code x code maxLocals ret :: tables_1)).before args0 about1 = true := by
  rw [allAtoms_all]
  show words1.all (fun c => c.before args0 about1) = true
  refine all_split ?_ w_codes
  rw [w_t1]
set_option maxRecDepth 65536 in
theorem w_case : (Jvm.Cond.and given_1 narrow_1).before args0 about1 = true := by decide +kernel
theorem w_applies : (headSpec (Jvm.Cond.code x code maxLocals ret :: tables_1) room_1).applies x e0.platform about1 = true :=
  (Spec.applies_iff w_frames).mpr ⟨w_running, w_runnable, w_alone, w_named, w_hears, w_ripe, w_room, w_tables⟩
theorem atStart : AtStart classFile x code maxLocals ret World_1 tables_1 room_1 Calls_1 rest_1 Pre_1 launch0 p0 e0 about1 theMethod args0 below0 :=
  ⟨lists_1, trivial, launch0.admits_env _ _ _, launch0.least_env, fairChoices_fair.cas, fairChoices_fair.clock, w_frames, w_args, w_heap, w_applies, trivial, trivial, w_case⟩
end start1
theorem witness_1 : WitnessClaimed_1 := ⟨start1.p0, start1.e0, start1.about1, start1.theMethod, start1.args0, start1.below0, start1.atStart⟩
end Jvm.Pilot.@@N@@
