import JvmDerived
import JvmDerived.Pilot.@@N@@Statement
import JvmDerived.Pilot.@@N@@Code
set_option linter.unusedVariables false
set_option linter.unusedSimpArgs false
namespace Jvm.Pilot.@@N@@
open Jvm Jvm.ClassFile Sem Op Lib Jvm.Free Jvm.Stand Jvm.LawKit Jvm.RoadKit Bundle Jvm.Pilot.@@N@@.Jvm.D
/-- from A the run comes to B -/
def Go (p : Program) (e : Env) (below : List Frame) (A B : State) : Prop := ∀ t, Steps p.tables e below B t → Steps p.tables e below A t
def own_b (P : Prop) [Decidable P] : Int32 := if P then 1 else 0
theorem own_b1 {P : Prop} [Decidable P] (h : P) : ¬ own_b P = (0 : Int32) := by simp [own_b, h]
theorem own_b0 {P : Prop} [Decidable P] (h : ¬ P) : own_b P = (0 : Int32) := by simp [own_b, h]
theorem own_bt {P : Prop} [Decidable P] (h : P) : own_b P = (1 : Int32) := by simp [own_b, h]
theorem own_nb {P : Prop} [Decidable P] : nar .boolean (own_b P) = own_b P := by by_cases h : P <;> simp [own_b, h] <;> decide
theorem own_beq {P R : Prop} [Decidable P] [Decidable R] (h : P ↔ R) : own_b P = own_b R := by by_cases q : P <;> simp [own_b, q, ← h]
theorem d1_0 : decode prog_47_method_1_code 0 = .ok (.aload_n 0, 1) := by decide +kernel
theorem d1_1 : decode prog_47_method_1_code 1 = .ok (.invokespecial 1, 3) := by decide +kernel
theorem d1_4 : decode prog_47_method_1_code 4 = .ok (.aload_n 0, 1) := by decide +kernel
theorem d1_5 : decode prog_47_method_1_code 5 = .ok (.aload_n 1, 1) := by decide +kernel
theorem d1_6 : decode prog_47_method_1_code 6 = .ok (.putfield 7, 3) := by decide +kernel
theorem d1_9 : decode prog_47_method_1_code 9 = .ok (.return_, 1) := by decide +kernel
theorem d3_0 : decode prog_47_method_2_code 0 = .ok (.aload_n 0, 1) := by decide +kernel
theorem d3_1 : decode prog_47_method_2_code 1 = .ok (.getfield 7, 3) := by decide +kernel
theorem d3_4 : decode prog_47_method_2_code 4 = .ok (.iload_n 1, 1) := by decide +kernel
theorem d3_5 : decode prog_47_method_2_code 5 = .ok (.bipush 6, 2) := by decide +kernel
theorem d3_7 : decode prog_47_method_2_code 7 = .ok (.iushr, 1) := by decide +kernel
theorem d3_8 : decode prog_47_method_2_code 8 = .ok (.laload, 1) := by decide +kernel
theorem d3_9 : decode prog_47_method_2_code 9 = .ok (.lconst 1, 1) := by decide +kernel
theorem d3_10 : decode prog_47_method_2_code 10 = .ok (.iload_n 1, 1) := by decide +kernel
theorem d3_11 : decode prog_47_method_2_code 11 = .ok (.lshl, 1) := by decide +kernel
theorem d3_12 : decode prog_47_method_2_code 12 = .ok (.land, 1) := by decide +kernel
theorem d3_13 : decode prog_47_method_2_code 13 = .ok (.lconst 0, 1) := by decide +kernel
theorem d3_14 : decode prog_47_method_2_code 14 = .ok (.lcmp, 1) := by decide +kernel
theorem d3_15 : decode prog_47_method_2_code 15 = .ok (.ifCond .eq 7, 3) := by decide +kernel
theorem d3_18 : decode prog_47_method_2_code 18 = .ok (.iconst 1, 1) := by decide +kernel
theorem d3_19 : decode prog_47_method_2_code 19 = .ok (.goto 4, 3) := by decide +kernel
theorem d3_22 : decode prog_47_method_2_code 22 = .ok (.iconst 0, 1) := by decide +kernel
theorem d3_23 : decode prog_47_method_2_code 23 = .ok (.ireturn, 1) := by decide +kernel
theorem d4_0 : decode method_3_code 0 = .ok (.iload 6, 2) := by decide +kernel
theorem d4_2 : decode method_3_code 2 = .ok (.bipush 64, 2) := by decide +kernel
theorem d4_4 : decode method_3_code 4 = .ok (.if_icmp .ge 13, 3) := by decide +kernel
theorem d4_7 : decode method_3_code 7 = .ok (.lload_n 0, 1) := by decide +kernel
theorem d4_8 : decode method_3_code 8 = .ok (.lstore 7, 2) := by decide +kernel
theorem d4_10 : decode method_3_code 10 = .ok (.iload 6, 2) := by decide +kernel
theorem d4_12 : decode method_3_code 12 = .ok (.istore 9, 2) := by decide +kernel
theorem d4_14 : decode method_3_code 14 = .ok (.goto 36, 3) := by decide +kernel
theorem d4_17 : decode method_3_code 17 = .ok (.iload 6, 2) := by decide +kernel
theorem d4_19 : decode method_3_code 19 = .ok (.sipush 128, 3) := by decide +kernel
theorem d4_22 : decode method_3_code 22 = .ok (.if_icmp .ge 16, 3) := by decide +kernel
theorem d4_25 : decode method_3_code 25 = .ok (.lload_n 2, 1) := by decide +kernel
theorem d4_26 : decode method_3_code 26 = .ok (.lstore 7, 2) := by decide +kernel
theorem d4_28 : decode method_3_code 28 = .ok (.iload 6, 2) := by decide +kernel
theorem d4_30 : decode method_3_code 30 = .ok (.bipush 64, 2) := by decide +kernel
theorem d4_32 : decode method_3_code 32 = .ok (.isub, 1) := by decide +kernel
theorem d4_33 : decode method_3_code 33 = .ok (.istore 9, 2) := by decide +kernel
theorem d4_35 : decode method_3_code 35 = .ok (.goto 15, 3) := by decide +kernel
theorem d4_38 : decode method_3_code 38 = .ok (.lload 4, 2) := by decide +kernel
theorem d4_40 : decode method_3_code 40 = .ok (.lstore 7, 2) := by decide +kernel
theorem d4_42 : decode method_3_code 42 = .ok (.iload 6, 2) := by decide +kernel
theorem d4_44 : decode method_3_code 44 = .ok (.sipush 128, 3) := by decide +kernel
theorem d4_47 : decode method_3_code 47 = .ok (.isub, 1) := by decide +kernel
theorem d4_48 : decode method_3_code 48 = .ok (.istore 9, 2) := by decide +kernel
theorem d4_50 : decode method_3_code 50 = .ok (.lload 7, 2) := by decide +kernel
theorem d4_52 : decode method_3_code 52 = .ok (.iload 9, 2) := by decide +kernel
theorem d4_54 : decode method_3_code 54 = .ok (.lushr, 1) := by decide +kernel
theorem d4_55 : decode method_3_code 55 = .ok (.lconst 1, 1) := by decide +kernel
theorem d4_56 : decode method_3_code 56 = .ok (.land, 1) := by decide +kernel
theorem d4_57 : decode method_3_code 57 = .ok (.lconst 1, 1) := by decide +kernel
theorem d4_58 : decode method_3_code 58 = .ok (.lcmp, 1) := by decide +kernel
theorem d4_59 : decode method_3_code 59 = .ok (.ifCond .ne 7, 3) := by decide +kernel
theorem d4_62 : decode method_3_code 62 = .ok (.iconst 1, 1) := by decide +kernel
theorem d4_63 : decode method_3_code 63 = .ok (.goto 4, 3) := by decide +kernel
theorem d4_66 : decode method_3_code 66 = .ok (.iconst 0, 1) := by decide +kernel
theorem d4_67 : decode method_3_code 67 = .ok (.ireturn, 1) := by decide +kernel
theorem pn_0 : plainName "com/example/ludarc/ludarc/network/State" = true := by first | (simp [plainName, overriddenIn]; done) | decide +kernel
theorem pn_1 : plainName "com/example/ludarc/ludarc/network/StateHoldsPinLaw" = true := by first | (simp [plainName, overriddenIn]; done) | decide +kernel
theorem pd_0 : parseMethodDescriptor "([J)V" = some ⟨[(.array .long)], none⟩ := by decide +kernel
theorem pd_1 : parseMethodDescriptor "(I)Z" = some ⟨[.int], some .boolean⟩ := by decide +kernel
theorem pd_2 : parseMethodDescriptor "(JJJI)Z" = some ⟨[.long, .long, .long, .int], some .boolean⟩ := by decide +kernel
theorem ef_rm1 (m : MethodId) (x0 : Addr) (x1 : Addr) : entryFrame m #[(.ref x0), (.ref x1)] 2 = mkF m 0 #[.val (.ref x0), .val (.ref x1)] [] := by first | (simp [entryFrame, mkF, argsToLocals, Value.category]; done) | rfl
theorem ef_rm3 (m : MethodId) (x0 : Addr) (x1 : Int32) : entryFrame m #[(.ref x0), (.int x1)] 2 = mkF m 0 #[.val (.ref x0), .val (.int x1)] [] := by first | (simp [entryFrame, mkF, argsToLocals, Value.category]; done) | rfl
theorem ef_rm4 (m : MethodId) (x0 : Int64) (x1 : Int64) (x2 : Int64) (x3 : Int32) : entryFrame m #[(.long x0), (.long x1), (.long x2), (.int x3)] 10 = mkF m 0 #[.val (.long x0), .second, .val (.long x1), .second, .val (.long x2), .second, .val (.int x3), .unset, .unset, .unset] [] := by first | (simp [entryFrame, mkF, argsToLocals, Value.category]; done) | rfl
theorem ef_rm0 (m : MethodId) (x0 : Int64) (x1 : Int64) (x2 : Int64) (x3 : Int32) (x4 : Int32) : entryFrame m #[(.long x0), (.long x1), (.long x2), (.int x3), (.int x4)] maxLocals = mkF m 0 #[.val (.long x0), .second, .val (.long x1), .second, .val (.long x2), .second, .val (.int x3), .val (.int x4), .unset, .unset, .unset, .unset, .unset, .unset] [] := by first | (simp [entryFrame, mkF, argsToLocals, Value.category, maxLocals]; done) | rfl
def own_word (w0 w1 w2 : Int64) (f : Int32) : Int64 := if f < (64 : Int32) then w0 else if f < (128 : Int32) then w1 else w2
def own_pos (f : Int32) : Int32 := if f < (64 : Int32) then f else if f < (128 : Int32) then (f - (64 : Int32)) else (f - (128 : Int32))
def own_j (f : Int32) : Int32 := ((f.toUInt32 >>> ((6 : Int32) &&& 31).toUInt32).toInt32)
def own_In (f : Int32) : Prop := 0 ≤ f.toInt ∧ f.toInt < 192
theorem own_in (x : Int32) : own_In ((x &&& (2147483647 : Int32)) % (192 : Int32)) := by
  have a1 := (c_and x 2147483647 (by decide)).1
  have a2 := (c_irem (x &&& 2147483647) 192 192 (by decide)).1 a1
  unfold own_In
  rw [a2]; omega
theorem own_jv {f : Int32} (h : own_In f) : (own_j f).toInt = f.toInt / 64 := by
  obtain ⟨h1, h2⟩ := h
  have := c_iushr f 6 6 (by decide) (by decide)
  rw [own_j, this]
  have e : ((2 ^ 6 : Nat) : Int) = 64 := by decide
  rw [e]; omega
theorem own_jin {f : Int32} (h : own_In f) : ¬ own_j f < 0 ∧ own_j f < (3 : Int32) := by
  have e := own_jv h
  obtain ⟨h1, h2⟩ := h
  rw [Int32.lt_iff_toInt_lt, Int32.lt_iff_toInt_lt, e]
  have e0 : (0 : Int32).toInt = 0 := by decide
  have e3 : (3 : Int32).toInt = 3 := by decide
  rw [e0, e3]; omega
theorem own_el {f : Int32} (h : own_In f) (w0 w1 w2 : Int64) (d : Value) : [Value.long w0, .long w1, .long w2].getD (own_j f).toNatClampNeg d = .long (own_word w0 w1 w2 f) := by
  have e := own_jv h
  obtain ⟨h1, h2⟩ := h
  have e64 : (64 : Int32).toInt = 64 := by decide
  have e128 : (128 : Int32).toInt = 128 := by decide
  have q : (own_j f).toNatClampNeg = (f.toInt / 64).toNat := by rw [← e]; rfl
  rw [q]
  unfold own_word
  by_cases c1 : f < 64
  · have c1' := c1
    rw [Int32.lt_iff_toInt_lt, e64] at c1'
    have : (f.toInt / 64).toNat = 0 := by omega
    rw [this]; simp [c1]
  · have c1' := c1
    rw [Int32.lt_iff_toInt_lt, e64] at c1'
    by_cases c2 : f < 128
    · have c2' := c2
      rw [Int32.lt_iff_toInt_lt, e128] at c2'
      have : (f.toInt / 64).toNat = 1 := by omega
      rw [this]; simp [c1, c2]
    · have c2' := c2
      rw [Int32.lt_iff_toInt_lt, e128] at c2'
      have : (f.toInt / 64).toNat = 2 := by omega
      rw [this]; simp [c1, c2]
theorem own_posm {f : Int32} (h : own_In f) : (own_pos f).toBitVec.toNat % 64 = f.toBitVec.toNat % 64 := by
  obtain ⟨h1, h2⟩ := h
  have r := rng32 f
  have t (g : Int32) (hg : 0 ≤ g.toInt) : (g.toBitVec.toNat : Int) = g.toInt := by
    have e : g.toInt = g.toBitVec.toInt := rfl
    rw [e] at hg ⊢
    rw [BitVec.toInt_eq_toNat_cond] at hg ⊢
    have := g.toBitVec.isLt
    split at hg <;> simp_all <;> omega
  have e64 : (64 : Int32).toInt = 64 := by decide
  have e128 : (128 : Int32).toInt = 128 := by decide
  unfold own_pos
  by_cases c1 : f < 64
  · simp [c1]
  · have c1' := c1
    rw [Int32.lt_iff_toInt_lt, e64] at c1'
    by_cases c2 : f < 128
    · have c2' := c2
      rw [Int32.lt_iff_toInt_lt, e128] at c2'
      have a := c_isub f 64
      have b := rng32 (f - 64)
      rw [e64] at a
      have a' : (f - 64).toInt = f.toInt - 64 := by omega
      simp only [c1, c2, if_true, if_false]
      have u1 := t f h1
      have u2 := t (f - 64) (by omega)
      omega
    · have c2' := c2
      rw [Int32.lt_iff_toInt_lt, e128] at c2'
      have a := c_isub f 128
      have b := rng32 (f - 128)
      rw [e128] at a
      have a' : (f - 128).toInt = f.toInt - 128 := by omega
      simp only [c1, c2, if_false]
      have u1 := t f h1
      have u2 := t (f - 128) (by omega)
      omega
theorem own_bits (w : Int64) (f g : Int32) (hfg : g.toBitVec.toNat % 64 = f.toBitVec.toNat % 64) : ¬ (w &&& ((1 : Int64) <<< (f &&& 0x3f).toInt64)) = (0 : Int64) ↔ ((w.toUInt64 >>> (g &&& 0x3f).toInt64.toUInt64).toInt64 &&& (1 : Int64)) = (1 : Int64) := by
  obtain ⟨k, hk⟩ : ∃ k, f.toBitVec.toNat % 64 = k := ⟨_, rfl⟩
  obtain ⟨sf, hk64⟩ := sm64 f k hk
  obtain ⟨sg, -⟩ := sm64 g k (hfg.trans hk)
  have a1 : (w &&& ((1 : Int64) <<< (f &&& 0x3f).toInt64)) = (0 : Int64) ↔ w.toBitVec.getLsbD k = false := by
    rw [← Int64.toBitVec_inj, Int64.toBitVec_and, Int64.toBitVec_shiftLeft, sf]
    have e : (1 : Int64).toBitVec <<< ((BitVec.ofNat 64 k).smod 64) = BitVec.twoPow 64 k := by
      rw [BitVec.shiftLeft_eq', smod64 k hk64]; rfl
    rw [e, BitVec.and_twoPow]
    have z : (0 : Int64).toBitVec = 0#64 := rfl
    rw [z]
    cases hb : w.toBitVec.getLsbD k
    · simp
    · simp only [if_true]
      constructor
      · intro q
        have := congrArg (fun b => b.getLsbD k) q
        simp [BitVec.getLsbD_twoPow, hk64] at this
      · intro q; cases q
  have a2 : ((w.toUInt64 >>> (g &&& 0x3f).toInt64.toUInt64).toInt64 &&& (1 : Int64)) = (1 : Int64) ↔ w.toBitVec.getLsbD k = true := by
    rw [← Int64.toBitVec_inj, Int64.toBitVec_and]
    have e : (w.toUInt64 >>> (g &&& 0x3f).toInt64.toUInt64).toInt64.toBitVec = w.toBitVec >>> k := by
      show (w.toUInt64 >>> (g &&& 0x3f).toInt64.toUInt64).toBitVec = _
      rw [UInt64.toBitVec_shiftRight]
      have : (g &&& 0x3f).toInt64.toUInt64.toBitVec = BitVec.ofNat 64 k := sg
      rw [this]
      have e2 : (BitVec.ofNat 64 k % 64) = BitVec.ofNat 64 k := by
        apply BitVec.eq_of_toNat_eq
        simp [BitVec.toNat_umod]; omega
      rw [e2, BitVec.ushiftRight_eq']
      have e3 : (BitVec.ofNat 64 k).toNat = k := by simp; omega
      rw [e3]; rfl
    rw [e]
    have o : (1 : Int64).toBitVec = 1#64 := rfl
    rw [o]
    constructor
    · intro q
      have := congrArg (fun b => b.getLsbD 0) q
      simpa using this
    · intro q
      apply BitVec.eq_of_getLsbD_eq
      intro i hi
      simp only [BitVec.getLsbD_and, BitVec.getLsbD_ushiftRight, BitVec.getLsbD_one]
      by_cases h0 : i = 0
      · subst h0; simp [q]
      · simp [h0]
  rw [a1, a2]
  cases w.toBitVec.getLsbD k <;> simp
def Qr (r : Value) (h0 : Heap) (n0 : Nat) (v : Option Value) (h : Heap) (L : List Loc) : Prop := v = some r ∧ Fr n0 L ∧ h = h0
def Qi (Z : State) (a b : Addr) (h0 : Heap) (n0 : Nat) (v : Option Value) (h : Heap) (L : List Loc) : Prop := v = none ∧ Fr n0 L ∧ Keep h0 h [a] ∧ Fld Z h a "com/example/ludarc/ludarc/network/State" "bits" "[J" (.ref b)
set_option maxRecDepth 65536 in
set_option maxHeartbeats 40000000 in
theorem rm1 (l : Launch) (Z : State) (a0 : Array Value) (hw : ∀ d ∈ tables_1, d.before a0 Z = true) (ws : List Jvm.Cond) (a b : Addr) (h0 : Heap) (n0 : Nat) (Z0 : n0 ≤ h0.size) (E : Exa Z h0 a "com/example/ludarc/ludarc/network/State") (F : Fld Z h0 a "com/example/ludarc/ludarc/network/State" "bits" "[J" .null) (ga : n0 ≤ a) :
    MetFree l (⟨"com/example/ludarc/ludarc/network/State", "<init>", "([J)V"⟩ : MethodName) (head1 (Jvm.Cond.code (⟨"com/example/ludarc/ludarc/network/State", "<init>", "([J)V"⟩ : MethodName) prog_47_method_1_code 2 none :: ws) ({ frames := 1, cells := 0, slots := 0, locals := 12 } : Room)) (fun aa UU => aa = #[(.ref a), (.ref b)] ∧ Z.Warmed39 UU.vm ∧ UU.heap = h0) (fun _ _ _ _ _ => True) (fun _ UU oo U' => ∃ v L, oo = .returned v ∧ Qi Z a b h0 n0 v U'.heap L ∧ FrameEnd UU oo U' L ({ frames := 1, cells := 0, slots := 0, locals := 12 } : Room).cells ({ frames := 1, cells := 0, slots := 0, locals := 12 } : Room).slots) := by
  refine MetFree.of_bodySF (plainFor_of_name pn_0) hisR ?_
  intro p e s m args below meth c s₁ Bd hml0 hP hK
  obtain ⟨rfl, hZ, hh⟩ := hP
  have hx := Bd.exec
  have hby := Bd.bytes
  have hml : c.maxLocals = 2 := hml0
  have hown : s.vm.findClass "com/example/ludarc/ludarc/network/State" = some m.cls := findClass_of_methodNamed Bd.named
  have hnm := (name_of_methodNamed Bd.named Bd.method).1
  have X0 : Stand p l e ({ frames := 1, cells := 0, slots := 0, locals := 12 } : Room) s m #[(.ref a), (.ref b)] below meth c s₁ [] 0 0 := Stand.of_body Bd
  have e0 : s₁.heap = h0 := by rw [← hh, Bd.state]; rfl
  have N0 := Fr.nil n0
  obtain ⟨A0, hA0⟩ : ∃ A, A = s₁.setTop (entryFrame m #[(.ref a), (.ref b)] 2) := ⟨_, rfl⟩
  have G0 : Go p e below A0 (s₁.setTop (mkF m 0 #[.val (.ref a), .val (.ref b)] [])) := fun tq kq => by rw [hA0]; exact castTop (ef_rm1 m a b) kq
  have G1 : Go p e below A0 (s₁.setTop (mkF m 1 #[.val (.ref a), .val (.ref b)] [(.ref a)])) := fun tq kq => G0 tq (by
    refine XS.aloadN X0.here hx rfl (hb hby d1_0) rfl rfl ?_
    show Steps p.tables e below (s₁.setTop (mkF m 1 #[.val (.ref a), .val (.ref b)] [(.ref a)])) _
    exact kq)
  obtain ⟨T2, X2, e2, st2⟩ := initO X0 hx hZ hown (hw _ (List.mem_of_getElem? (i := 7) rfl)) (hw _ (List.mem_of_getElem? (i := 8) rfl)) (hw _ (List.mem_of_getElem? (i := 9) rfl)) e0 (g := (mkF m 1 #[.val (.ref a), .val (.ref b)] [(.ref a)])) rfl (by rw [hml]; rfl) rfl (hb hby d1_1) (by decide) (W := 0) (by show 2 * 0 + _ ≤ _; exact Nat.le_of_eq rfl) (by decide)
  have G3 : Go p e below A0 (T2.setTop (mkF m 4 #[.val (.ref a), .val (.ref b)] [])) := fun tq kq => G1 tq (st2 _ kq)
  have G4 : Go p e below A0 (T2.setTop (mkF m 6 #[.val (.ref a), .val (.ref b)] [(.ref b), (.ref a)])) := fun tq kq => G3 tq (by
    refine XS.aloadN X2.here hx rfl (hb hby d1_4) rfl rfl ?_
    show Steps p.tables e below (T2.setTop (mkF m 5 #[.val (.ref a), .val (.ref b)] [(.ref a)])) _
    refine XS.aloadN X2.here hx rfl (hb hby d1_5) rfl rfl ?_
    show Steps p.tables e below (T2.setTop (mkF m 6 #[.val (.ref a), .val (.ref b)] [(.ref b), (.ref a)])) _
    exact kq)
  obtain ⟨T5, h5, X5, e5, W5, st5⟩ := putF X2 hx hZ hown (host := "") (Or.inl (hw _ (List.mem_of_getElem? (i := 10) rfl))) Via.refl e2 F E (Or.inr ⟨(hw _ (List.mem_of_getElem? (i := 11) rfl)), rfl, hnm⟩) (hw _ (List.mem_of_getElem? (i := 2) rfl)) (ty := (.array .long)) (by decide) rfl rfl (g := (mkF m 6 #[.val (.ref a), .val (.ref b)] [(.ref b), (.ref a)])) rfl rfl (hb hby d1_6)
  have N5 := Fr.snoc X5 N0 ga
  have fw5 := F.same W5
  have G6 : Go p e below A0 (T5.setTop (mkF m 9 #[.val (.ref a), .val (.ref b)] [])) := fun tq kq => G4 tq (st5 _ kq)
  obtain ⟨fs, hr, hrun, hended, hW, hsame⟩ := X5.leave (v := none) (fun _ => rfl)
  refine ⟨_, _, (by rw [← hA0]; exact G6 _ (X5.returnOut hx Bd.returns (hb hby d1_9) hr)), hrun, hended, _, _, rfl, ?_, ⟨_, rfl⟩, hW, hsame.mono (by decide) (by decide)⟩
  show Qi Z a b h0 n0 _ T5.heap _
  rw [e5]
  exact ⟨rfl, N5, ((Keep.refl h0 [a]).wr W5 (Or.inl (List.mem_of_getElem? (i := 0) rfl))), fw5⟩
set_option maxRecDepth 65536 in
set_option maxHeartbeats 40000000 in
theorem rm3 (l : Launch) (Z : State) (a0 : Array Value) (hw : ∀ d ∈ tables_1, d.before a0 Z = true) (ws : List Jvm.Cond) (a b : Addr) (p3 : Int32) (kb : ClassId) (vs : List Value) (wd : Int64) (h0 : Heap) (n0 : Nat) (Z0 : n0 ≤ h0.size) (F : Fld Z h0 a "com/example/ludarc/ludarc/network/State" "bits" "[J" (.ref b)) (A : Arv Z h0 b kb .long (3 : Int32) vs (.long (0 : Int64))) (hj : ¬ own_j p3 < 0 ∧ own_j p3 < (3 : Int32)) (hel : vs.getD (own_j p3).toNatClampNeg (.long (0 : Int64)) = .long wd) :
    MetFree l (⟨"com/example/ludarc/ludarc/network/State", "holds", "(I)Z"⟩ : MethodName) (head1 (Jvm.Cond.code (⟨"com/example/ludarc/ludarc/network/State", "holds", "(I)Z"⟩ : MethodName) prog_47_method_2_code 2 (some .boolean) :: ws) ({ frames := 0, cells := 0, slots := 0, locals := 0 } : Room)) (fun aa UU => aa = #[(.ref a), (.int p3)] ∧ Z.Warmed39 UU.vm ∧ UU.heap = h0) (fun _ _ _ _ _ => True) (fun _ UU oo U' => ∃ v L, oo = .returned v ∧ Qr (.int (own_b (¬ (wd &&& ((1 : Int64) <<< (p3 &&& 0x3f).toInt64)) = (0 : Int64)))) h0 n0 v U'.heap L ∧ FrameEnd UU oo U' L ({ frames := 0, cells := 0, slots := 0, locals := 0 } : Room).cells ({ frames := 0, cells := 0, slots := 0, locals := 0 } : Room).slots) := by
  refine MetFree.of_bodySF (plainFor_of_name pn_0) hisR ?_
  intro p e s m args below meth c s₁ Bd hml0 hP hK
  obtain ⟨rfl, hZ, hh⟩ := hP
  have hx := Bd.exec
  have hby := Bd.bytes
  have hml : c.maxLocals = 2 := hml0
  have hown : s.vm.findClass "com/example/ludarc/ludarc/network/State" = some m.cls := findClass_of_methodNamed Bd.named
  have hnm := (name_of_methodNamed Bd.named Bd.method).1
  have X0 : Stand p l e ({ frames := 0, cells := 0, slots := 0, locals := 0 } : Room) s m #[(.ref a), (.int p3)] below meth c s₁ [] 0 0 := Stand.of_body Bd
  have e0 : s₁.heap = h0 := by rw [← hh, Bd.state]; rfl
  have N0 := Fr.nil n0
  obtain ⟨A0, hA0⟩ : ∃ A, A = s₁.setTop (entryFrame m #[(.ref a), (.int p3)] 2) := ⟨_, rfl⟩
  have G0 : Go p e below A0 (s₁.setTop (mkF m 0 #[.val (.ref a), .val (.int p3)] [])) := fun tq kq => by rw [hA0]; exact castTop (ef_rm3 m a p3) kq
  have G7 : Go p e below A0 (s₁.setTop (mkF m 1 #[.val (.ref a), .val (.int p3)] [(.ref a)])) := fun tq kq => G0 tq (by
    refine XS.aloadN X0.here hx rfl (hb hby d3_0) rfl rfl ?_
    show Steps p.tables e below (s₁.setTop (mkF m 1 #[.val (.ref a), .val (.int p3)] [(.ref a)])) _
    exact kq)
  obtain ⟨T8, X8, e8, st8⟩ := getF X0 hx hZ hown (host := "") (Or.inl (hw _ (List.mem_of_getElem? (i := 10) rfl))) Via.refl e0 F (g := (mkF m 1 #[.val (.ref a), .val (.int p3)] [(.ref a)])) rfl rfl (hb hby d3_1)
  have G9 : Go p e below A0 (T8.setTop (mkF m 4 #[.val (.ref a), .val (.int p3)] [(.ref b)])) := fun tq kq => G7 tq (st8 _ kq)
  have G10 : Go p e below A0 (T8.setTop (mkF m 8 #[.val (.ref a), .val (.int p3)] [(.int ((p3.toUInt32 >>> ((6 : Int32) &&& 31).toUInt32).toInt32)), (.ref b)])) := fun tq kq => G9 tq (by
    refine XS.iloadN X8.here hx rfl (hb hby d3_4) rfl ?_
    show Steps p.tables e below (T8.setTop (mkF m 5 #[.val (.ref a), .val (.int p3)] [(.int p3), (.ref b)])) _
    refine XS.bipush X8.here hx rfl (hb hby d3_5) ?_
    show Steps p.tables e below (T8.setTop (mkF m 7 #[.val (.ref a), .val (.int p3)] [(.int (6 : Int32)), (.int p3), (.ref b)])) _
    refine XS.iushr X8.here hx rfl (hb hby d3_7) rfl ?_
    show Steps p.tables e below (T8.setTop (mkF m 8 #[.val (.ref a), .val (.int p3)] [(.int ((p3.toUInt32 >>> ((6 : Int32) &&& 31).toUInt32).toInt32)), (.ref b)])) _
    exact kq)
  obtain ⟨cl11, Ar11, q11, S11, M11, H11, Gf11⟩ := id A
  have hi12 : ¬ (((p3.toUInt32 >>> ((6 : Int32) &&& 31).toUInt32).toInt32) < 0 ∨ cl11.slots.size ≤ (((p3.toUInt32 >>> ((6 : Int32) &&& 31).toUInt32).toInt32)).toNatClampNeg) := (inb_of S11 hj)
  have G13 : Go p e below A0 (T8.setTop (mkF m 15 #[.val (.ref a), .val (.int p3)] [(.int (lcmpW (wd &&& ((1 : Int64) <<< (p3 &&& 0x3f).toInt64)) (0 : Int64)))])) := fun tq kq => G10 tq (by
    refine X8.laload hx (j := ((p3.toUInt32 >>> ((6 : Int32) &&& 31).toUInt32).toInt32)) (v := (.long wd)) (by rw [e8]; exact Ar11.1) (State.isArrayOf_alike hZ.alike Ar11.2.1) Ar11.2.2 hi12 (H11.at hi12 hel) (g := (mkF m 8 #[.val (.ref a), .val (.int p3)] [(.int ((p3.toUInt32 >>> ((6 : Int32) &&& 31).toUInt32).toInt32)), (.ref b)])) rfl rfl (hb hby d3_8) _ ?_
    show Steps p.tables e below (T8.setTop (mkF m 9 #[.val (.ref a), .val (.int p3)] [(.long wd)])) _
    refine XS.lconst X8.here hx rfl (hb hby d3_9) ?_
    show Steps p.tables e below (T8.setTop (mkF m 10 #[.val (.ref a), .val (.int p3)] [(.long (1 : Int64)), (.long wd)])) _
    refine XS.iloadN X8.here hx rfl (hb hby d3_10) rfl ?_
    show Steps p.tables e below (T8.setTop (mkF m 11 #[.val (.ref a), .val (.int p3)] [(.int p3), (.long (1 : Int64)), (.long wd)])) _
    refine XS.lshl X8.here hx rfl (hb hby d3_11) rfl ?_
    show Steps p.tables e below (T8.setTop (mkF m 12 #[.val (.ref a), .val (.int p3)] [(.long ((1 : Int64) <<< (p3 &&& 0x3f).toInt64)), (.long wd)])) _
    refine XS.land X8.here hx rfl (hb hby d3_12) rfl ?_
    show Steps p.tables e below (T8.setTop (mkF m 13 #[.val (.ref a), .val (.int p3)] [(.long (wd &&& ((1 : Int64) <<< (p3 &&& 0x3f).toInt64)))])) _
    refine XS.lconst X8.here hx rfl (hb hby d3_13) ?_
    show Steps p.tables e below (T8.setTop (mkF m 14 #[.val (.ref a), .val (.int p3)] [(.long (0 : Int64)), (.long (wd &&& ((1 : Int64) <<< (p3 &&& 0x3f).toInt64)))])) _
    refine XS.lcmp X8.here hx rfl (hb hby d3_14) rfl ?_
    show Steps p.tables e below (T8.setTop (mkF m 15 #[.val (.ref a), .val (.int p3)] [(.int (lcmpW (wd &&& ((1 : Int64) <<< (p3 &&& 0x3f).toInt64)) (0 : Int64)))])) _
    exact kq)
  by_cases hc14 : (wd &&& ((1 : Int64) <<< (p3 &&& 0x3f).toInt64)) = (0 : Int64)
  · have G15 : Go p e below A0 (T8.setTop (mkF m 23 #[.val (.ref a), .val (.int p3)] [(.int (0 : Int32))])) := fun tq kq => G13 tq (by
      refine XS.ifYes X8.here hx rfl (pc0 := 15) (pc' := 22) rfl (hb hby d3_15) rfl ((if0 _ _).trans (teq ((lw_eq _ _).mpr hc14)).1) (by decide) (by decide) ?_
      show Steps p.tables e below (T8.setTop (mkF m 22 #[.val (.ref a), .val (.int p3)] [])) _
      refine XS.iconst X8.here hx rfl (hb hby d3_22) ?_
      show Steps p.tables e below (T8.setTop (mkF m 23 #[.val (.ref a), .val (.int p3)] [(.int (0 : Int32))])) _
      exact kq)
    obtain ⟨fs, hr, hrun, hended, hW, hsame⟩ := X8.leave (v := some (.int (nar .boolean (0 : Int32)))) (fun h => by rw [Bd.returns] at h; cases h)
    refine ⟨_, _, (by rw [← hA0]; exact G15 _ (retN X8 hx (t := .boolean) Bd.returns (by simp) (hb hby d3_23) hr)), hrun, hended, _, _, rfl, ?_, ⟨_, rfl⟩, hW, hsame.mono (by decide) (by decide)⟩
    exact ⟨(by rw [show own_b (¬ (wd &&& ((1 : Int64) <<< (p3 &&& 0x3f).toInt64)) = (0 : Int64)) = (0 : Int32) from by simp only [own_b, hc14, not_true_eq_false, not_false_eq_true, if_true, if_false, or_true, true_or, or_false, false_or, and_true, true_and, and_false, false_and, and_self, or_self]]; rfl), N0, e8⟩
  · have G16 : Go p e below A0 (T8.setTop (mkF m 23 #[.val (.ref a), .val (.int p3)] [(.int (1 : Int32))])) := fun tq kq => G13 tq (by
      refine XS.ifNo X8.here hx rfl (hb hby d3_15) rfl ((if0 _ _).trans (feq (fun q => hc14 ((lw_eq _ _).mp q))).1) ?_
      show Steps p.tables e below (T8.setTop (mkF m 18 #[.val (.ref a), .val (.int p3)] [])) _
      refine XS.iconst X8.here hx rfl (hb hby d3_18) ?_
      show Steps p.tables e below (T8.setTop (mkF m 19 #[.val (.ref a), .val (.int p3)] [(.int (1 : Int32))])) _
      refine XS.goto X8.here hx rfl (pc0 := 19) (pc' := 23) rfl (hb hby d3_19) (by decide) (by decide) ?_
      show Steps p.tables e below (T8.setTop (mkF m 23 #[.val (.ref a), .val (.int p3)] [(.int (1 : Int32))])) _
      exact kq)
    obtain ⟨fs, hr, hrun, hended, hW, hsame⟩ := X8.leave (v := some (.int (nar .boolean (1 : Int32)))) (fun h => by rw [Bd.returns] at h; cases h)
    refine ⟨_, _, (by rw [← hA0]; exact G16 _ (retN X8 hx (t := .boolean) Bd.returns (by simp) (hb hby d3_23) hr)), hrun, hended, _, _, rfl, ?_, ⟨_, rfl⟩, hW, hsame.mono (by decide) (by decide)⟩
    exact ⟨(by rw [show own_b (¬ (wd &&& ((1 : Int64) <<< (p3 &&& 0x3f).toInt64)) = (0 : Int64)) = (1 : Int32) from by simp only [own_b, hc14, not_true_eq_false, not_false_eq_true, if_true, if_false, or_true, true_or, or_false, false_or, and_true, true_and, and_false, false_and, and_self, or_self]]; rfl), N0, e8⟩
set_option maxRecDepth 65536 in
set_option maxHeartbeats 40000000 in
theorem rm4 (l : Launch) (Z : State) (a0 : Array Value) (hw : ∀ d ∈ tables_1, d.before a0 Z = true) (ws : List Jvm.Cond) (q0 q1 q2 : Int64) (p3 : Int32) (h0 : Heap) (n0 : Nat) (Z0 : n0 ≤ h0.size) :
    MetFree l (⟨"com/example/ludarc/ludarc/network/StateHoldsPinLaw", "expected", "(JJJI)Z"⟩ : MethodName) (head1 (Jvm.Cond.code (⟨"com/example/ludarc/ludarc/network/StateHoldsPinLaw", "expected", "(JJJI)Z"⟩ : MethodName) method_3_code 10 (some .boolean) :: ws) ({ frames := 0, cells := 0, slots := 0, locals := 0 } : Room)) (fun aa UU => aa = #[(.long q0), (.long q1), (.long q2), (.int p3)] ∧ Z.Warmed39 UU.vm ∧ UU.heap = h0) (fun _ _ _ _ _ => True) (fun _ UU oo U' => ∃ v L, oo = .returned v ∧ Qr (.int (own_b (((((own_word q0 q1 q2 p3).toUInt64 >>> (own_pos p3 &&& 0x3f).toInt64.toUInt64).toInt64) &&& (1 : Int64)) = (1 : Int64)))) h0 n0 v U'.heap L ∧ FrameEnd UU oo U' L ({ frames := 0, cells := 0, slots := 0, locals := 0 } : Room).cells ({ frames := 0, cells := 0, slots := 0, locals := 0 } : Room).slots) := by
  refine MetFree.of_bodySF (plainFor_of_name pn_1) hisR ?_
  intro p e s m args below meth c s₁ Bd hml0 hP hK
  obtain ⟨rfl, hZ, hh⟩ := hP
  have hx := Bd.exec
  have hby := Bd.bytes
  have hml : c.maxLocals = 10 := hml0
  have hown : s.vm.findClass "com/example/ludarc/ludarc/network/StateHoldsPinLaw" = some m.cls := findClass_of_methodNamed Bd.named
  have hnm := (name_of_methodNamed Bd.named Bd.method).1
  have X0 : Stand p l e ({ frames := 0, cells := 0, slots := 0, locals := 0 } : Room) s m #[(.long q0), (.long q1), (.long q2), (.int p3)] below meth c s₁ [] 0 0 := Stand.of_body Bd
  have e0 : s₁.heap = h0 := by rw [← hh, Bd.state]; rfl
  have N0 := Fr.nil n0
  obtain ⟨A0, hA0⟩ : ∃ A, A = s₁.setTop (entryFrame m #[(.long q0), (.long q1), (.long q2), (.int p3)] 10) := ⟨_, rfl⟩
  have G0 : Go p e below A0 (s₁.setTop (mkF m 0 #[.val (.long q0), .second, .val (.long q1), .second, .val (.long q2), .second, .val (.int p3), .unset, .unset, .unset] [])) := fun tq kq => by rw [hA0]; exact castTop (ef_rm4 m q0 q1 q2 p3) kq
  have G17 : Go p e below A0 (s₁.setTop (mkF m 4 #[.val (.long q0), .second, .val (.long q1), .second, .val (.long q2), .second, .val (.int p3), .unset, .unset, .unset] [(.int (64 : Int32)), (.int p3)])) := fun tq kq => G0 tq (by
    refine XS.iload X0.here hx rfl (hb hby d4_0) rfl ?_
    show Steps p.tables e below (s₁.setTop (mkF m 2 #[.val (.long q0), .second, .val (.long q1), .second, .val (.long q2), .second, .val (.int p3), .unset, .unset, .unset] [(.int p3)])) _
    refine XS.bipush X0.here hx rfl (hb hby d4_2) ?_
    show Steps p.tables e below (s₁.setTop (mkF m 4 #[.val (.long q0), .second, .val (.long q1), .second, .val (.long q2), .second, .val (.int p3), .unset, .unset, .unset] [(.int (64 : Int32)), (.int p3)])) _
    exact kq)
  by_cases hc18 : p3 < (64 : Int32)
  · have G19 : Go p e below A0 (s₁.setTop (mkF m 59 #[.val (.long q0), .second, .val (.long q1), .second, .val (.long q2), .second, .val (.int p3), .val (.long q0), .second, .val (.int p3)] [(.int (lcmpW (((q0.toUInt64 >>> (p3 &&& 0x3f).toInt64.toUInt64).toInt64) &&& (1 : Int64)) (1 : Int64)))])) := fun tq kq => G17 tq (by
      refine XS.icmpNo X0.here hx rfl (hb hby d4_4) rfl (tlt hc18).2.1 ?_
      show Steps p.tables e below (s₁.setTop (mkF m 7 #[.val (.long q0), .second, .val (.long q1), .second, .val (.long q2), .second, .val (.int p3), .unset, .unset, .unset] [])) _
      refine XS.lloadN X0.here hx rfl (hb hby d4_7) rfl ?_
      show Steps p.tables e below (s₁.setTop (mkF m 8 #[.val (.long q0), .second, .val (.long q1), .second, .val (.long q2), .second, .val (.int p3), .unset, .unset, .unset] [(.long q0)])) _
      refine XS.lstore X0.here hx rfl (hb hby d4_8) rfl (l' := #[.val (.long q0), .second, .val (.long q1), .second, .val (.long q2), .second, .val (.int p3), .val (.long q0), .second, .unset]) rfl ?_
      show Steps p.tables e below (s₁.setTop (mkF m 10 #[.val (.long q0), .second, .val (.long q1), .second, .val (.long q2), .second, .val (.int p3), .val (.long q0), .second, .unset] [])) _
      refine XS.iload X0.here hx rfl (hb hby d4_10) rfl ?_
      show Steps p.tables e below (s₁.setTop (mkF m 12 #[.val (.long q0), .second, .val (.long q1), .second, .val (.long q2), .second, .val (.int p3), .val (.long q0), .second, .unset] [(.int p3)])) _
      refine XS.istore X0.here hx rfl (hb hby d4_12) rfl (l' := #[.val (.long q0), .second, .val (.long q1), .second, .val (.long q2), .second, .val (.int p3), .val (.long q0), .second, .val (.int p3)]) rfl ?_
      show Steps p.tables e below (s₁.setTop (mkF m 14 #[.val (.long q0), .second, .val (.long q1), .second, .val (.long q2), .second, .val (.int p3), .val (.long q0), .second, .val (.int p3)] [])) _
      refine XS.goto X0.here hx rfl (pc0 := 14) (pc' := 50) rfl (hb hby d4_14) (by decide) (by decide) ?_
      show Steps p.tables e below (s₁.setTop (mkF m 50 #[.val (.long q0), .second, .val (.long q1), .second, .val (.long q2), .second, .val (.int p3), .val (.long q0), .second, .val (.int p3)] [])) _
      refine XS.lload X0.here hx rfl (hb hby d4_50) rfl ?_
      show Steps p.tables e below (s₁.setTop (mkF m 52 #[.val (.long q0), .second, .val (.long q1), .second, .val (.long q2), .second, .val (.int p3), .val (.long q0), .second, .val (.int p3)] [(.long q0)])) _
      refine XS.iload X0.here hx rfl (hb hby d4_52) rfl ?_
      show Steps p.tables e below (s₁.setTop (mkF m 54 #[.val (.long q0), .second, .val (.long q1), .second, .val (.long q2), .second, .val (.int p3), .val (.long q0), .second, .val (.int p3)] [(.int p3), (.long q0)])) _
      refine XS.lushr X0.here hx rfl (hb hby d4_54) rfl ?_
      show Steps p.tables e below (s₁.setTop (mkF m 55 #[.val (.long q0), .second, .val (.long q1), .second, .val (.long q2), .second, .val (.int p3), .val (.long q0), .second, .val (.int p3)] [(.long ((q0.toUInt64 >>> (p3 &&& 0x3f).toInt64.toUInt64).toInt64))])) _
      refine XS.lconst X0.here hx rfl (hb hby d4_55) ?_
      show Steps p.tables e below (s₁.setTop (mkF m 56 #[.val (.long q0), .second, .val (.long q1), .second, .val (.long q2), .second, .val (.int p3), .val (.long q0), .second, .val (.int p3)] [(.long (1 : Int64)), (.long ((q0.toUInt64 >>> (p3 &&& 0x3f).toInt64.toUInt64).toInt64))])) _
      refine XS.land X0.here hx rfl (hb hby d4_56) rfl ?_
      show Steps p.tables e below (s₁.setTop (mkF m 57 #[.val (.long q0), .second, .val (.long q1), .second, .val (.long q2), .second, .val (.int p3), .val (.long q0), .second, .val (.int p3)] [(.long (((q0.toUInt64 >>> (p3 &&& 0x3f).toInt64.toUInt64).toInt64) &&& (1 : Int64)))])) _
      refine XS.lconst X0.here hx rfl (hb hby d4_57) ?_
      show Steps p.tables e below (s₁.setTop (mkF m 58 #[.val (.long q0), .second, .val (.long q1), .second, .val (.long q2), .second, .val (.int p3), .val (.long q0), .second, .val (.int p3)] [(.long (1 : Int64)), (.long (((q0.toUInt64 >>> (p3 &&& 0x3f).toInt64.toUInt64).toInt64) &&& (1 : Int64)))])) _
      refine XS.lcmp X0.here hx rfl (hb hby d4_58) rfl ?_
      show Steps p.tables e below (s₁.setTop (mkF m 59 #[.val (.long q0), .second, .val (.long q1), .second, .val (.long q2), .second, .val (.int p3), .val (.long q0), .second, .val (.int p3)] [(.int (lcmpW (((q0.toUInt64 >>> (p3 &&& 0x3f).toInt64.toUInt64).toInt64) &&& (1 : Int64)) (1 : Int64)))])) _
      exact kq)
    by_cases hc20 : (((q0.toUInt64 >>> (p3 &&& 0x3f).toInt64.toUInt64).toInt64) &&& (1 : Int64)) = (1 : Int64)
    · have G21 : Go p e below A0 (s₁.setTop (mkF m 67 #[.val (.long q0), .second, .val (.long q1), .second, .val (.long q2), .second, .val (.int p3), .val (.long q0), .second, .val (.int p3)] [(.int (1 : Int32))])) := fun tq kq => G19 tq (by
        refine XS.ifNo X0.here hx rfl (hb hby d4_59) rfl ((if0 _ _).trans (teq ((lw_eq _ _).mpr hc20)).2) ?_
        show Steps p.tables e below (s₁.setTop (mkF m 62 #[.val (.long q0), .second, .val (.long q1), .second, .val (.long q2), .second, .val (.int p3), .val (.long q0), .second, .val (.int p3)] [])) _
        refine XS.iconst X0.here hx rfl (hb hby d4_62) ?_
        show Steps p.tables e below (s₁.setTop (mkF m 63 #[.val (.long q0), .second, .val (.long q1), .second, .val (.long q2), .second, .val (.int p3), .val (.long q0), .second, .val (.int p3)] [(.int (1 : Int32))])) _
        refine XS.goto X0.here hx rfl (pc0 := 63) (pc' := 67) rfl (hb hby d4_63) (by decide) (by decide) ?_
        show Steps p.tables e below (s₁.setTop (mkF m 67 #[.val (.long q0), .second, .val (.long q1), .second, .val (.long q2), .second, .val (.int p3), .val (.long q0), .second, .val (.int p3)] [(.int (1 : Int32))])) _
        exact kq)
      obtain ⟨fs, hr, hrun, hended, hW, hsame⟩ := X0.leave (v := some (.int (nar .boolean (1 : Int32)))) (fun h => by rw [Bd.returns] at h; cases h)
      refine ⟨_, _, (by rw [← hA0]; exact G21 _ (retN X0 hx (t := .boolean) Bd.returns (by simp) (hb hby d4_67) hr)), hrun, hended, _, _, rfl, ?_, ⟨_, rfl⟩, hW, hsame.mono (by decide) (by decide)⟩
      exact ⟨(by rw [show own_b (((((own_word q0 q1 q2 p3).toUInt64 >>> (own_pos p3 &&& 0x3f).toInt64.toUInt64).toInt64) &&& (1 : Int64)) = (1 : Int64)) = (1 : Int32) from by simp only [own_b, own_word, own_pos, hc18, hc20, not_true_eq_false, not_false_eq_true, if_true, if_false, or_true, true_or, or_false, false_or, and_true, true_and, and_false, false_and, and_self, or_self]]; rfl), N0, e0⟩
    · have G22 : Go p e below A0 (s₁.setTop (mkF m 67 #[.val (.long q0), .second, .val (.long q1), .second, .val (.long q2), .second, .val (.int p3), .val (.long q0), .second, .val (.int p3)] [(.int (0 : Int32))])) := fun tq kq => G19 tq (by
        refine XS.ifYes X0.here hx rfl (pc0 := 59) (pc' := 66) rfl (hb hby d4_59) rfl ((if0 _ _).trans (feq (fun q => hc20 ((lw_eq _ _).mp q))).2) (by decide) (by decide) ?_
        show Steps p.tables e below (s₁.setTop (mkF m 66 #[.val (.long q0), .second, .val (.long q1), .second, .val (.long q2), .second, .val (.int p3), .val (.long q0), .second, .val (.int p3)] [])) _
        refine XS.iconst X0.here hx rfl (hb hby d4_66) ?_
        show Steps p.tables e below (s₁.setTop (mkF m 67 #[.val (.long q0), .second, .val (.long q1), .second, .val (.long q2), .second, .val (.int p3), .val (.long q0), .second, .val (.int p3)] [(.int (0 : Int32))])) _
        exact kq)
      obtain ⟨fs, hr, hrun, hended, hW, hsame⟩ := X0.leave (v := some (.int (nar .boolean (0 : Int32)))) (fun h => by rw [Bd.returns] at h; cases h)
      refine ⟨_, _, (by rw [← hA0]; exact G22 _ (retN X0 hx (t := .boolean) Bd.returns (by simp) (hb hby d4_67) hr)), hrun, hended, _, _, rfl, ?_, ⟨_, rfl⟩, hW, hsame.mono (by decide) (by decide)⟩
      exact ⟨(by rw [show own_b (((((own_word q0 q1 q2 p3).toUInt64 >>> (own_pos p3 &&& 0x3f).toInt64.toUInt64).toInt64) &&& (1 : Int64)) = (1 : Int64)) = (0 : Int32) from by simp only [own_b, own_word, own_pos, hc18, hc20, not_true_eq_false, not_false_eq_true, if_true, if_false, or_true, true_or, or_false, false_or, and_true, true_and, and_false, false_and, and_self, or_self]]; rfl), N0, e0⟩
  · have G23 : Go p e below A0 (s₁.setTop (mkF m 22 #[.val (.long q0), .second, .val (.long q1), .second, .val (.long q2), .second, .val (.int p3), .unset, .unset, .unset] [(.int (128 : Int32)), (.int p3)])) := fun tq kq => G17 tq (by
      refine XS.icmpYes X0.here hx rfl (pc0 := 4) (pc' := 17) rfl (hb hby d4_4) rfl (flt hc18).2.1 (by decide) (by decide) ?_
      show Steps p.tables e below (s₁.setTop (mkF m 17 #[.val (.long q0), .second, .val (.long q1), .second, .val (.long q2), .second, .val (.int p3), .unset, .unset, .unset] [])) _
      refine XS.iload X0.here hx rfl (hb hby d4_17) rfl ?_
      show Steps p.tables e below (s₁.setTop (mkF m 19 #[.val (.long q0), .second, .val (.long q1), .second, .val (.long q2), .second, .val (.int p3), .unset, .unset, .unset] [(.int p3)])) _
      refine XS.sipush X0.here hx rfl (hb hby d4_19) ?_
      show Steps p.tables e below (s₁.setTop (mkF m 22 #[.val (.long q0), .second, .val (.long q1), .second, .val (.long q2), .second, .val (.int p3), .unset, .unset, .unset] [(.int (128 : Int32)), (.int p3)])) _
      exact kq)
    by_cases hc24 : p3 < (128 : Int32)
    · have G25 : Go p e below A0 (s₁.setTop (mkF m 59 #[.val (.long q0), .second, .val (.long q1), .second, .val (.long q2), .second, .val (.int p3), .val (.long q1), .second, .val (.int (p3 - (64 : Int32)))] [(.int (lcmpW (((q1.toUInt64 >>> ((p3 - (64 : Int32)) &&& 0x3f).toInt64.toUInt64).toInt64) &&& (1 : Int64)) (1 : Int64)))])) := fun tq kq => G23 tq (by
        refine XS.icmpNo X0.here hx rfl (hb hby d4_22) rfl (tlt hc24).2.1 ?_
        show Steps p.tables e below (s₁.setTop (mkF m 25 #[.val (.long q0), .second, .val (.long q1), .second, .val (.long q2), .second, .val (.int p3), .unset, .unset, .unset] [])) _
        refine XS.lloadN X0.here hx rfl (hb hby d4_25) rfl ?_
        show Steps p.tables e below (s₁.setTop (mkF m 26 #[.val (.long q0), .second, .val (.long q1), .second, .val (.long q2), .second, .val (.int p3), .unset, .unset, .unset] [(.long q1)])) _
        refine XS.lstore X0.here hx rfl (hb hby d4_26) rfl (l' := #[.val (.long q0), .second, .val (.long q1), .second, .val (.long q2), .second, .val (.int p3), .val (.long q1), .second, .unset]) rfl ?_
        show Steps p.tables e below (s₁.setTop (mkF m 28 #[.val (.long q0), .second, .val (.long q1), .second, .val (.long q2), .second, .val (.int p3), .val (.long q1), .second, .unset] [])) _
        refine XS.iload X0.here hx rfl (hb hby d4_28) rfl ?_
        show Steps p.tables e below (s₁.setTop (mkF m 30 #[.val (.long q0), .second, .val (.long q1), .second, .val (.long q2), .second, .val (.int p3), .val (.long q1), .second, .unset] [(.int p3)])) _
        refine XS.bipush X0.here hx rfl (hb hby d4_30) ?_
        show Steps p.tables e below (s₁.setTop (mkF m 32 #[.val (.long q0), .second, .val (.long q1), .second, .val (.long q2), .second, .val (.int p3), .val (.long q1), .second, .unset] [(.int (64 : Int32)), (.int p3)])) _
        refine XS.isub X0.here hx rfl (hb hby d4_32) rfl ?_
        show Steps p.tables e below (s₁.setTop (mkF m 33 #[.val (.long q0), .second, .val (.long q1), .second, .val (.long q2), .second, .val (.int p3), .val (.long q1), .second, .unset] [(.int (p3 - (64 : Int32)))])) _
        refine XS.istore X0.here hx rfl (hb hby d4_33) rfl (l' := #[.val (.long q0), .second, .val (.long q1), .second, .val (.long q2), .second, .val (.int p3), .val (.long q1), .second, .val (.int (p3 - (64 : Int32)))]) rfl ?_
        show Steps p.tables e below (s₁.setTop (mkF m 35 #[.val (.long q0), .second, .val (.long q1), .second, .val (.long q2), .second, .val (.int p3), .val (.long q1), .second, .val (.int (p3 - (64 : Int32)))] [])) _
        refine XS.goto X0.here hx rfl (pc0 := 35) (pc' := 50) rfl (hb hby d4_35) (by decide) (by decide) ?_
        show Steps p.tables e below (s₁.setTop (mkF m 50 #[.val (.long q0), .second, .val (.long q1), .second, .val (.long q2), .second, .val (.int p3), .val (.long q1), .second, .val (.int (p3 - (64 : Int32)))] [])) _
        refine XS.lload X0.here hx rfl (hb hby d4_50) rfl ?_
        show Steps p.tables e below (s₁.setTop (mkF m 52 #[.val (.long q0), .second, .val (.long q1), .second, .val (.long q2), .second, .val (.int p3), .val (.long q1), .second, .val (.int (p3 - (64 : Int32)))] [(.long q1)])) _
        refine XS.iload X0.here hx rfl (hb hby d4_52) rfl ?_
        show Steps p.tables e below (s₁.setTop (mkF m 54 #[.val (.long q0), .second, .val (.long q1), .second, .val (.long q2), .second, .val (.int p3), .val (.long q1), .second, .val (.int (p3 - (64 : Int32)))] [(.int (p3 - (64 : Int32))), (.long q1)])) _
        refine XS.lushr X0.here hx rfl (hb hby d4_54) rfl ?_
        show Steps p.tables e below (s₁.setTop (mkF m 55 #[.val (.long q0), .second, .val (.long q1), .second, .val (.long q2), .second, .val (.int p3), .val (.long q1), .second, .val (.int (p3 - (64 : Int32)))] [(.long ((q1.toUInt64 >>> ((p3 - (64 : Int32)) &&& 0x3f).toInt64.toUInt64).toInt64))])) _
        refine XS.lconst X0.here hx rfl (hb hby d4_55) ?_
        show Steps p.tables e below (s₁.setTop (mkF m 56 #[.val (.long q0), .second, .val (.long q1), .second, .val (.long q2), .second, .val (.int p3), .val (.long q1), .second, .val (.int (p3 - (64 : Int32)))] [(.long (1 : Int64)), (.long ((q1.toUInt64 >>> ((p3 - (64 : Int32)) &&& 0x3f).toInt64.toUInt64).toInt64))])) _
        refine XS.land X0.here hx rfl (hb hby d4_56) rfl ?_
        show Steps p.tables e below (s₁.setTop (mkF m 57 #[.val (.long q0), .second, .val (.long q1), .second, .val (.long q2), .second, .val (.int p3), .val (.long q1), .second, .val (.int (p3 - (64 : Int32)))] [(.long (((q1.toUInt64 >>> ((p3 - (64 : Int32)) &&& 0x3f).toInt64.toUInt64).toInt64) &&& (1 : Int64)))])) _
        refine XS.lconst X0.here hx rfl (hb hby d4_57) ?_
        show Steps p.tables e below (s₁.setTop (mkF m 58 #[.val (.long q0), .second, .val (.long q1), .second, .val (.long q2), .second, .val (.int p3), .val (.long q1), .second, .val (.int (p3 - (64 : Int32)))] [(.long (1 : Int64)), (.long (((q1.toUInt64 >>> ((p3 - (64 : Int32)) &&& 0x3f).toInt64.toUInt64).toInt64) &&& (1 : Int64)))])) _
        refine XS.lcmp X0.here hx rfl (hb hby d4_58) rfl ?_
        show Steps p.tables e below (s₁.setTop (mkF m 59 #[.val (.long q0), .second, .val (.long q1), .second, .val (.long q2), .second, .val (.int p3), .val (.long q1), .second, .val (.int (p3 - (64 : Int32)))] [(.int (lcmpW (((q1.toUInt64 >>> ((p3 - (64 : Int32)) &&& 0x3f).toInt64.toUInt64).toInt64) &&& (1 : Int64)) (1 : Int64)))])) _
        exact kq)
      by_cases hc26 : (((q1.toUInt64 >>> ((p3 - (64 : Int32)) &&& 0x3f).toInt64.toUInt64).toInt64) &&& (1 : Int64)) = (1 : Int64)
      · have G27 : Go p e below A0 (s₁.setTop (mkF m 67 #[.val (.long q0), .second, .val (.long q1), .second, .val (.long q2), .second, .val (.int p3), .val (.long q1), .second, .val (.int (p3 - (64 : Int32)))] [(.int (1 : Int32))])) := fun tq kq => G25 tq (by
          refine XS.ifNo X0.here hx rfl (hb hby d4_59) rfl ((if0 _ _).trans (teq ((lw_eq _ _).mpr hc26)).2) ?_
          show Steps p.tables e below (s₁.setTop (mkF m 62 #[.val (.long q0), .second, .val (.long q1), .second, .val (.long q2), .second, .val (.int p3), .val (.long q1), .second, .val (.int (p3 - (64 : Int32)))] [])) _
          refine XS.iconst X0.here hx rfl (hb hby d4_62) ?_
          show Steps p.tables e below (s₁.setTop (mkF m 63 #[.val (.long q0), .second, .val (.long q1), .second, .val (.long q2), .second, .val (.int p3), .val (.long q1), .second, .val (.int (p3 - (64 : Int32)))] [(.int (1 : Int32))])) _
          refine XS.goto X0.here hx rfl (pc0 := 63) (pc' := 67) rfl (hb hby d4_63) (by decide) (by decide) ?_
          show Steps p.tables e below (s₁.setTop (mkF m 67 #[.val (.long q0), .second, .val (.long q1), .second, .val (.long q2), .second, .val (.int p3), .val (.long q1), .second, .val (.int (p3 - (64 : Int32)))] [(.int (1 : Int32))])) _
          exact kq)
        obtain ⟨fs, hr, hrun, hended, hW, hsame⟩ := X0.leave (v := some (.int (nar .boolean (1 : Int32)))) (fun h => by rw [Bd.returns] at h; cases h)
        refine ⟨_, _, (by rw [← hA0]; exact G27 _ (retN X0 hx (t := .boolean) Bd.returns (by simp) (hb hby d4_67) hr)), hrun, hended, _, _, rfl, ?_, ⟨_, rfl⟩, hW, hsame.mono (by decide) (by decide)⟩
        exact ⟨(by rw [show own_b (((((own_word q0 q1 q2 p3).toUInt64 >>> (own_pos p3 &&& 0x3f).toInt64.toUInt64).toInt64) &&& (1 : Int64)) = (1 : Int64)) = (1 : Int32) from by simp only [own_b, own_word, own_pos, hc18, hc24, hc26, not_true_eq_false, not_false_eq_true, if_true, if_false, or_true, true_or, or_false, false_or, and_true, true_and, and_false, false_and, and_self, or_self]]; rfl), N0, e0⟩
      · have G28 : Go p e below A0 (s₁.setTop (mkF m 67 #[.val (.long q0), .second, .val (.long q1), .second, .val (.long q2), .second, .val (.int p3), .val (.long q1), .second, .val (.int (p3 - (64 : Int32)))] [(.int (0 : Int32))])) := fun tq kq => G25 tq (by
          refine XS.ifYes X0.here hx rfl (pc0 := 59) (pc' := 66) rfl (hb hby d4_59) rfl ((if0 _ _).trans (feq (fun q => hc26 ((lw_eq _ _).mp q))).2) (by decide) (by decide) ?_
          show Steps p.tables e below (s₁.setTop (mkF m 66 #[.val (.long q0), .second, .val (.long q1), .second, .val (.long q2), .second, .val (.int p3), .val (.long q1), .second, .val (.int (p3 - (64 : Int32)))] [])) _
          refine XS.iconst X0.here hx rfl (hb hby d4_66) ?_
          show Steps p.tables e below (s₁.setTop (mkF m 67 #[.val (.long q0), .second, .val (.long q1), .second, .val (.long q2), .second, .val (.int p3), .val (.long q1), .second, .val (.int (p3 - (64 : Int32)))] [(.int (0 : Int32))])) _
          exact kq)
        obtain ⟨fs, hr, hrun, hended, hW, hsame⟩ := X0.leave (v := some (.int (nar .boolean (0 : Int32)))) (fun h => by rw [Bd.returns] at h; cases h)
        refine ⟨_, _, (by rw [← hA0]; exact G28 _ (retN X0 hx (t := .boolean) Bd.returns (by simp) (hb hby d4_67) hr)), hrun, hended, _, _, rfl, ?_, ⟨_, rfl⟩, hW, hsame.mono (by decide) (by decide)⟩
        exact ⟨(by rw [show own_b (((((own_word q0 q1 q2 p3).toUInt64 >>> (own_pos p3 &&& 0x3f).toInt64.toUInt64).toInt64) &&& (1 : Int64)) = (1 : Int64)) = (0 : Int32) from by simp only [own_b, own_word, own_pos, hc18, hc24, hc26, not_true_eq_false, not_false_eq_true, if_true, if_false, or_true, true_or, or_false, false_or, and_true, true_and, and_false, false_and, and_self, or_self]]; rfl), N0, e0⟩
    · have G29 : Go p e below A0 (s₁.setTop (mkF m 59 #[.val (.long q0), .second, .val (.long q1), .second, .val (.long q2), .second, .val (.int p3), .val (.long q2), .second, .val (.int (p3 - (128 : Int32)))] [(.int (lcmpW (((q2.toUInt64 >>> ((p3 - (128 : Int32)) &&& 0x3f).toInt64.toUInt64).toInt64) &&& (1 : Int64)) (1 : Int64)))])) := fun tq kq => G23 tq (by
        refine XS.icmpYes X0.here hx rfl (pc0 := 22) (pc' := 38) rfl (hb hby d4_22) rfl (flt hc24).2.1 (by decide) (by decide) ?_
        show Steps p.tables e below (s₁.setTop (mkF m 38 #[.val (.long q0), .second, .val (.long q1), .second, .val (.long q2), .second, .val (.int p3), .unset, .unset, .unset] [])) _
        refine XS.lload X0.here hx rfl (hb hby d4_38) rfl ?_
        show Steps p.tables e below (s₁.setTop (mkF m 40 #[.val (.long q0), .second, .val (.long q1), .second, .val (.long q2), .second, .val (.int p3), .unset, .unset, .unset] [(.long q2)])) _
        refine XS.lstore X0.here hx rfl (hb hby d4_40) rfl (l' := #[.val (.long q0), .second, .val (.long q1), .second, .val (.long q2), .second, .val (.int p3), .val (.long q2), .second, .unset]) rfl ?_
        show Steps p.tables e below (s₁.setTop (mkF m 42 #[.val (.long q0), .second, .val (.long q1), .second, .val (.long q2), .second, .val (.int p3), .val (.long q2), .second, .unset] [])) _
        refine XS.iload X0.here hx rfl (hb hby d4_42) rfl ?_
        show Steps p.tables e below (s₁.setTop (mkF m 44 #[.val (.long q0), .second, .val (.long q1), .second, .val (.long q2), .second, .val (.int p3), .val (.long q2), .second, .unset] [(.int p3)])) _
        refine XS.sipush X0.here hx rfl (hb hby d4_44) ?_
        show Steps p.tables e below (s₁.setTop (mkF m 47 #[.val (.long q0), .second, .val (.long q1), .second, .val (.long q2), .second, .val (.int p3), .val (.long q2), .second, .unset] [(.int (128 : Int32)), (.int p3)])) _
        refine XS.isub X0.here hx rfl (hb hby d4_47) rfl ?_
        show Steps p.tables e below (s₁.setTop (mkF m 48 #[.val (.long q0), .second, .val (.long q1), .second, .val (.long q2), .second, .val (.int p3), .val (.long q2), .second, .unset] [(.int (p3 - (128 : Int32)))])) _
        refine XS.istore X0.here hx rfl (hb hby d4_48) rfl (l' := #[.val (.long q0), .second, .val (.long q1), .second, .val (.long q2), .second, .val (.int p3), .val (.long q2), .second, .val (.int (p3 - (128 : Int32)))]) rfl ?_
        show Steps p.tables e below (s₁.setTop (mkF m 50 #[.val (.long q0), .second, .val (.long q1), .second, .val (.long q2), .second, .val (.int p3), .val (.long q2), .second, .val (.int (p3 - (128 : Int32)))] [])) _
        refine XS.lload X0.here hx rfl (hb hby d4_50) rfl ?_
        show Steps p.tables e below (s₁.setTop (mkF m 52 #[.val (.long q0), .second, .val (.long q1), .second, .val (.long q2), .second, .val (.int p3), .val (.long q2), .second, .val (.int (p3 - (128 : Int32)))] [(.long q2)])) _
        refine XS.iload X0.here hx rfl (hb hby d4_52) rfl ?_
        show Steps p.tables e below (s₁.setTop (mkF m 54 #[.val (.long q0), .second, .val (.long q1), .second, .val (.long q2), .second, .val (.int p3), .val (.long q2), .second, .val (.int (p3 - (128 : Int32)))] [(.int (p3 - (128 : Int32))), (.long q2)])) _
        refine XS.lushr X0.here hx rfl (hb hby d4_54) rfl ?_
        show Steps p.tables e below (s₁.setTop (mkF m 55 #[.val (.long q0), .second, .val (.long q1), .second, .val (.long q2), .second, .val (.int p3), .val (.long q2), .second, .val (.int (p3 - (128 : Int32)))] [(.long ((q2.toUInt64 >>> ((p3 - (128 : Int32)) &&& 0x3f).toInt64.toUInt64).toInt64))])) _
        refine XS.lconst X0.here hx rfl (hb hby d4_55) ?_
        show Steps p.tables e below (s₁.setTop (mkF m 56 #[.val (.long q0), .second, .val (.long q1), .second, .val (.long q2), .second, .val (.int p3), .val (.long q2), .second, .val (.int (p3 - (128 : Int32)))] [(.long (1 : Int64)), (.long ((q2.toUInt64 >>> ((p3 - (128 : Int32)) &&& 0x3f).toInt64.toUInt64).toInt64))])) _
        refine XS.land X0.here hx rfl (hb hby d4_56) rfl ?_
        show Steps p.tables e below (s₁.setTop (mkF m 57 #[.val (.long q0), .second, .val (.long q1), .second, .val (.long q2), .second, .val (.int p3), .val (.long q2), .second, .val (.int (p3 - (128 : Int32)))] [(.long (((q2.toUInt64 >>> ((p3 - (128 : Int32)) &&& 0x3f).toInt64.toUInt64).toInt64) &&& (1 : Int64)))])) _
        refine XS.lconst X0.here hx rfl (hb hby d4_57) ?_
        show Steps p.tables e below (s₁.setTop (mkF m 58 #[.val (.long q0), .second, .val (.long q1), .second, .val (.long q2), .second, .val (.int p3), .val (.long q2), .second, .val (.int (p3 - (128 : Int32)))] [(.long (1 : Int64)), (.long (((q2.toUInt64 >>> ((p3 - (128 : Int32)) &&& 0x3f).toInt64.toUInt64).toInt64) &&& (1 : Int64)))])) _
        refine XS.lcmp X0.here hx rfl (hb hby d4_58) rfl ?_
        show Steps p.tables e below (s₁.setTop (mkF m 59 #[.val (.long q0), .second, .val (.long q1), .second, .val (.long q2), .second, .val (.int p3), .val (.long q2), .second, .val (.int (p3 - (128 : Int32)))] [(.int (lcmpW (((q2.toUInt64 >>> ((p3 - (128 : Int32)) &&& 0x3f).toInt64.toUInt64).toInt64) &&& (1 : Int64)) (1 : Int64)))])) _
        exact kq)
      by_cases hc30 : (((q2.toUInt64 >>> ((p3 - (128 : Int32)) &&& 0x3f).toInt64.toUInt64).toInt64) &&& (1 : Int64)) = (1 : Int64)
      · have G31 : Go p e below A0 (s₁.setTop (mkF m 67 #[.val (.long q0), .second, .val (.long q1), .second, .val (.long q2), .second, .val (.int p3), .val (.long q2), .second, .val (.int (p3 - (128 : Int32)))] [(.int (1 : Int32))])) := fun tq kq => G29 tq (by
          refine XS.ifNo X0.here hx rfl (hb hby d4_59) rfl ((if0 _ _).trans (teq ((lw_eq _ _).mpr hc30)).2) ?_
          show Steps p.tables e below (s₁.setTop (mkF m 62 #[.val (.long q0), .second, .val (.long q1), .second, .val (.long q2), .second, .val (.int p3), .val (.long q2), .second, .val (.int (p3 - (128 : Int32)))] [])) _
          refine XS.iconst X0.here hx rfl (hb hby d4_62) ?_
          show Steps p.tables e below (s₁.setTop (mkF m 63 #[.val (.long q0), .second, .val (.long q1), .second, .val (.long q2), .second, .val (.int p3), .val (.long q2), .second, .val (.int (p3 - (128 : Int32)))] [(.int (1 : Int32))])) _
          refine XS.goto X0.here hx rfl (pc0 := 63) (pc' := 67) rfl (hb hby d4_63) (by decide) (by decide) ?_
          show Steps p.tables e below (s₁.setTop (mkF m 67 #[.val (.long q0), .second, .val (.long q1), .second, .val (.long q2), .second, .val (.int p3), .val (.long q2), .second, .val (.int (p3 - (128 : Int32)))] [(.int (1 : Int32))])) _
          exact kq)
        obtain ⟨fs, hr, hrun, hended, hW, hsame⟩ := X0.leave (v := some (.int (nar .boolean (1 : Int32)))) (fun h => by rw [Bd.returns] at h; cases h)
        refine ⟨_, _, (by rw [← hA0]; exact G31 _ (retN X0 hx (t := .boolean) Bd.returns (by simp) (hb hby d4_67) hr)), hrun, hended, _, _, rfl, ?_, ⟨_, rfl⟩, hW, hsame.mono (by decide) (by decide)⟩
        exact ⟨(by rw [show own_b (((((own_word q0 q1 q2 p3).toUInt64 >>> (own_pos p3 &&& 0x3f).toInt64.toUInt64).toInt64) &&& (1 : Int64)) = (1 : Int64)) = (1 : Int32) from by simp only [own_b, own_word, own_pos, hc18, hc24, hc30, not_true_eq_false, not_false_eq_true, if_true, if_false, or_true, true_or, or_false, false_or, and_true, true_and, and_false, false_and, and_self, or_self]]; rfl), N0, e0⟩
      · have G32 : Go p e below A0 (s₁.setTop (mkF m 67 #[.val (.long q0), .second, .val (.long q1), .second, .val (.long q2), .second, .val (.int p3), .val (.long q2), .second, .val (.int (p3 - (128 : Int32)))] [(.int (0 : Int32))])) := fun tq kq => G29 tq (by
          refine XS.ifYes X0.here hx rfl (pc0 := 59) (pc' := 66) rfl (hb hby d4_59) rfl ((if0 _ _).trans (feq (fun q => hc30 ((lw_eq _ _).mp q))).2) (by decide) (by decide) ?_
          show Steps p.tables e below (s₁.setTop (mkF m 66 #[.val (.long q0), .second, .val (.long q1), .second, .val (.long q2), .second, .val (.int p3), .val (.long q2), .second, .val (.int (p3 - (128 : Int32)))] [])) _
          refine XS.iconst X0.here hx rfl (hb hby d4_66) ?_
          show Steps p.tables e below (s₁.setTop (mkF m 67 #[.val (.long q0), .second, .val (.long q1), .second, .val (.long q2), .second, .val (.int p3), .val (.long q2), .second, .val (.int (p3 - (128 : Int32)))] [(.int (0 : Int32))])) _
          exact kq)
        obtain ⟨fs, hr, hrun, hended, hW, hsame⟩ := X0.leave (v := some (.int (nar .boolean (0 : Int32)))) (fun h => by rw [Bd.returns] at h; cases h)
        refine ⟨_, _, (by rw [← hA0]; exact G32 _ (retN X0 hx (t := .boolean) Bd.returns (by simp) (hb hby d4_67) hr)), hrun, hended, _, _, rfl, ?_, ⟨_, rfl⟩, hW, hsame.mono (by decide) (by decide)⟩
        exact ⟨(by rw [show own_b (((((own_word q0 q1 q2 p3).toUInt64 >>> (own_pos p3 &&& 0x3f).toInt64.toUInt64).toInt64) &&& (1 : Int64)) = (1 : Int64)) = (0 : Int32) from by simp only [own_b, own_word, own_pos, hc18, hc24, hc30, not_true_eq_false, not_false_eq_true, if_true, if_false, or_true, true_or, or_false, false_or, and_true, true_and, and_false, false_and, and_self, or_self]]; rfl), N0, e0⟩
def Q0c (n0 : Nat) (v : Option Value) (L : List Loc) : Prop := v = some (.int 1) ∧ Fr n0 L
set_option maxRecDepth 65536 in
set_option maxHeartbeats 40000000 in
theorem rm0 (l : Launch) (Z : State) (a0 : Array Value) (hw : ∀ d ∈ tables_1, d.before a0 Z = true) (ws : List Jvm.Cond) (q0 q1 q2 : Int64) (p3 p4 : Int32) (h0 : Heap) (n0 : Nat) (Z0 : n0 ≤ h0.size) :
    MetFree l x (head1 (Jvm.Cond.code x code maxLocals ret :: ws) room_1) (fun aa UU => aa = #[(.long q0), (.long q1), (.long q2), (.int p3), (.int p4)] ∧ Z.Warmed39 UU.vm ∧ UU.heap = h0) (fun _ _ _ _ _ => True) (fun _ UU oo U' => ∃ v L, oo = .returned v ∧ Q0c n0 v L ∧ FrameEnd UU oo U' L room_1.cells room_1.slots) := by
  refine MetFree.of_bodySF (plainFor_of_name pn_1) hisR ?_
  intro p e s m args below meth c s₁ Bd hml0 hP hK
  obtain ⟨rfl, hZ, hh⟩ := hP
  have hx := Bd.exec
  have hby := Bd.bytes
  have hml : c.maxLocals = 14 := hml0
  have hown : s.vm.findClass "com/example/ludarc/ludarc/network/StateHoldsPinLaw" = some m.cls := findClass_of_methodNamed Bd.named
  have hnm := (name_of_methodNamed Bd.named Bd.method).1
  have X0 : Stand p l e room_1 s m #[(.long q0), (.long q1), (.long q2), (.int p3), (.int p4)] below meth c s₁ [] 0 0 := Stand.of_body Bd
  have e0 : s₁.heap = h0 := by rw [← hh, Bd.state]; rfl
  have N0 := Fr.nil n0
  obtain ⟨A0, hA0⟩ : ∃ A, A = s₁.setTop (entryFrame m #[(.long q0), (.long q1), (.long q2), (.int p3), (.int p4)] maxLocals) := ⟨_, rfl⟩
  have G0 : Go p e below A0 (s₁.setTop (mkF m 0 #[.val (.long q0), .second, .val (.long q1), .second, .val (.long q2), .second, .val (.int p3), .val (.int p4), .unset, .unset, .unset, .unset, .unset, .unset] [])) := fun tq kq => by rw [hA0]; exact castTop (ef_rm0 m q0 q1 q2 p3 p4) kq
  have G33 : Go p e below A0 (s₁.setTop (mkF m 1 #[.val (.long q0), .second, .val (.long q1), .second, .val (.long q2), .second, .val (.int p3), .val (.int p4), .unset, .unset, .unset, .unset, .unset, .unset] [(.int (3 : Int32))])) := fun tq kq => G0 tq (by
    refine XS.iconst X0.here hx rfl (hb hby at_0) ?_
    show Steps p.tables e below (s₁.setTop (mkF m 1 #[.val (.long q0), .second, .val (.long q1), .second, .val (.long q2), .second, .val (.int p3), .val (.int p4), .unset, .unset, .unset, .unset, .unset, .unset] [(.int (3 : Int32))])) _
    exact kq)
  obtain ⟨T34, h34, k34, X34, e34, E34, A34, st34⟩ := newP X0 hx hZ (hw _ (List.mem_of_getElem? (i := 0) rfl)) e0 (g := (mkF m 1 #[.val (.long q0), .second, .val (.long q1), .second, .val (.long q2), .second, .val (.int p3), .val (.int p4), .unset, .unset, .unset, .unset, .unset, .unset] [(.int (3 : Int32))])) rfl (hb hby at_1) rfl (by decide) (cap := 3) (by decide) (by decide) (by decide) (by decide)
  obtain ⟨b34, g34⟩ : ∃ z, z = h0.size := ⟨_, rfl⟩
  rw [← g34] at A34 st34
  have sz_b34 : h0.size ≤ b34 := Nat.le_trans (Nat.le_refl h0.size) (Nat.le_of_eq g34.symm)
  have g_b34 : n0 ≤ b34 := Nat.le_trans Z0 (Nat.le_of_eq g34.symm)
  have V34 : Arv Z h34 b34 k34 .long (3 : Int32) [(.long (0 : Int64)), (.long (0 : Int64)), (.long (0 : Int64))] (.long (0 : Int64)) := (Arv.new A34 (by decide)).pad (pad_rep [] (.long (0 : Int64)) 3)
  have G35 : Go p e below A0 (T34.setTop (mkF m 3 #[.val (.long q0), .second, .val (.long q1), .second, .val (.long q2), .second, .val (.int p3), .val (.int p4), .unset, .unset, .unset, .unset, .unset, .unset] [(.ref b34)])) := fun tq kq => G33 tq (st34 _ kq)
  have G36 : Go p e below A0 (T34.setTop (mkF m 9 #[.val (.long q0), .second, .val (.long q1), .second, .val (.long q2), .second, .val (.int p3), .val (.int p4), .val (.ref b34), .unset, .unset, .unset, .unset, .unset] [(.long q0), (.int (0 : Int32)), (.ref b34)])) := fun tq kq => G35 tq (by
    refine XS.astore X34.here hx rfl (hb hby at_3) rfl rfl (l' := #[.val (.long q0), .second, .val (.long q1), .second, .val (.long q2), .second, .val (.int p3), .val (.int p4), .val (.ref b34), .unset, .unset, .unset, .unset, .unset]) rfl ?_
    show Steps p.tables e below (T34.setTop (mkF m 5 #[.val (.long q0), .second, .val (.long q1), .second, .val (.long q2), .second, .val (.int p3), .val (.int p4), .val (.ref b34), .unset, .unset, .unset, .unset, .unset] [])) _
    refine XS.aload X34.here hx rfl (hb hby at_5) rfl rfl ?_
    show Steps p.tables e below (T34.setTop (mkF m 7 #[.val (.long q0), .second, .val (.long q1), .second, .val (.long q2), .second, .val (.int p3), .val (.int p4), .val (.ref b34), .unset, .unset, .unset, .unset, .unset] [(.ref b34)])) _
    refine XS.iconst X34.here hx rfl (hb hby at_7) ?_
    show Steps p.tables e below (T34.setTop (mkF m 8 #[.val (.long q0), .second, .val (.long q1), .second, .val (.long q2), .second, .val (.int p3), .val (.int p4), .val (.ref b34), .unset, .unset, .unset, .unset, .unset] [(.int (0 : Int32)), (.ref b34)])) _
    refine XS.lloadN X34.here hx rfl (hb hby at_8) rfl ?_
    show Steps p.tables e below (T34.setTop (mkF m 9 #[.val (.long q0), .second, .val (.long q1), .second, .val (.long q2), .second, .val (.int p3), .val (.int p4), .val (.ref b34), .unset, .unset, .unset, .unset, .unset] [(.long q0), (.int (0 : Int32)), (.ref b34)])) _
    exact kq)
  obtain ⟨cl37, Ar37, q37, S37, M37, H37, Gf37⟩ := id V34
  have hi38 : ¬ ((0 : Int32) < 0 ∨ cl37.slots.size ≤ ((0 : Int32)).toNatClampNeg) := (inb_of S37 ⟨by decide, by decide⟩)
  obtain ⟨T39, h39, X39, e39, W39, st39⟩ := stJ X34 hx hZ e34 Ar37 (j := (0 : Int32)) hi38 (g := (mkF m 9 #[.val (.long q0), .second, .val (.long q1), .second, .val (.long q2), .second, .val (.int p3), .val (.int p4), .val (.ref b34), .unset, .unset, .unset, .unset, .unset] [(.long q0), (.int (0 : Int32)), (.ref b34)])) rfl rfl (hb hby at_9)
  have N39 := Fr.snoc X39 N0 g_b34
  have V39 := Arv.set Ar37 q37 S37 M37 H37 Gf37 rfl W39 0 rfl (Nat.le_of_ble_eq_true rfl)
  have V39' : Arv Z h39 b34 k34 .long (3 : Int32) [(.long q0), (.long (0 : Int64)), (.long (0 : Int64))] (.long (0 : Int64)) := V39
  have G40 : Go p e below A0 (T39.setTop (mkF m 10 #[.val (.long q0), .second, .val (.long q1), .second, .val (.long q2), .second, .val (.int p3), .val (.int p4), .val (.ref b34), .unset, .unset, .unset, .unset, .unset] [])) := fun tq kq => G36 tq (st39 _ kq)
  have G41 : Go p e below A0 (T39.setTop (mkF m 14 #[.val (.long q0), .second, .val (.long q1), .second, .val (.long q2), .second, .val (.int p3), .val (.int p4), .val (.ref b34), .unset, .unset, .unset, .unset, .unset] [(.long q1), (.int (1 : Int32)), (.ref b34)])) := fun tq kq => G40 tq (by
    refine XS.aload X39.here hx rfl (hb hby at_10) rfl rfl ?_
    show Steps p.tables e below (T39.setTop (mkF m 12 #[.val (.long q0), .second, .val (.long q1), .second, .val (.long q2), .second, .val (.int p3), .val (.int p4), .val (.ref b34), .unset, .unset, .unset, .unset, .unset] [(.ref b34)])) _
    refine XS.iconst X39.here hx rfl (hb hby at_12) ?_
    show Steps p.tables e below (T39.setTop (mkF m 13 #[.val (.long q0), .second, .val (.long q1), .second, .val (.long q2), .second, .val (.int p3), .val (.int p4), .val (.ref b34), .unset, .unset, .unset, .unset, .unset] [(.int (1 : Int32)), (.ref b34)])) _
    refine XS.lloadN X39.here hx rfl (hb hby at_13) rfl ?_
    show Steps p.tables e below (T39.setTop (mkF m 14 #[.val (.long q0), .second, .val (.long q1), .second, .val (.long q2), .second, .val (.int p3), .val (.int p4), .val (.ref b34), .unset, .unset, .unset, .unset, .unset] [(.long q1), (.int (1 : Int32)), (.ref b34)])) _
    exact kq)
  obtain ⟨cl42, Ar42, q42, S42, M42, H42, Gf42⟩ := id V39'
  have hi43 : ¬ ((1 : Int32) < 0 ∨ cl42.slots.size ≤ ((1 : Int32)).toNatClampNeg) := (inb_of S42 ⟨by decide, by decide⟩)
  obtain ⟨T44, h44, X44, e44, W44, st44⟩ := stJ X39 hx hZ e39 Ar42 (j := (1 : Int32)) hi43 (g := (mkF m 14 #[.val (.long q0), .second, .val (.long q1), .second, .val (.long q2), .second, .val (.int p3), .val (.int p4), .val (.ref b34), .unset, .unset, .unset, .unset, .unset] [(.long q1), (.int (1 : Int32)), (.ref b34)])) rfl rfl (hb hby at_14)
  have N44 := Fr.snoc X44 N39 g_b34
  have V44 := Arv.set Ar42 q42 S42 M42 H42 Gf42 rfl W44 1 rfl (Nat.le_of_ble_eq_true rfl)
  have V44' : Arv Z h44 b34 k34 .long (3 : Int32) [(.long q0), (.long q1), (.long (0 : Int64))] (.long (0 : Int64)) := V44
  have G45 : Go p e below A0 (T44.setTop (mkF m 15 #[.val (.long q0), .second, .val (.long q1), .second, .val (.long q2), .second, .val (.int p3), .val (.int p4), .val (.ref b34), .unset, .unset, .unset, .unset, .unset] [])) := fun tq kq => G41 tq (st44 _ kq)
  have G46 : Go p e below A0 (T44.setTop (mkF m 20 #[.val (.long q0), .second, .val (.long q1), .second, .val (.long q2), .second, .val (.int p3), .val (.int p4), .val (.ref b34), .unset, .unset, .unset, .unset, .unset] [(.long q2), (.int (2 : Int32)), (.ref b34)])) := fun tq kq => G45 tq (by
    refine XS.aload X44.here hx rfl (hb hby at_15) rfl rfl ?_
    show Steps p.tables e below (T44.setTop (mkF m 17 #[.val (.long q0), .second, .val (.long q1), .second, .val (.long q2), .second, .val (.int p3), .val (.int p4), .val (.ref b34), .unset, .unset, .unset, .unset, .unset] [(.ref b34)])) _
    refine XS.iconst X44.here hx rfl (hb hby at_17) ?_
    show Steps p.tables e below (T44.setTop (mkF m 18 #[.val (.long q0), .second, .val (.long q1), .second, .val (.long q2), .second, .val (.int p3), .val (.int p4), .val (.ref b34), .unset, .unset, .unset, .unset, .unset] [(.int (2 : Int32)), (.ref b34)])) _
    refine XS.lload X44.here hx rfl (hb hby at_18) rfl ?_
    show Steps p.tables e below (T44.setTop (mkF m 20 #[.val (.long q0), .second, .val (.long q1), .second, .val (.long q2), .second, .val (.int p3), .val (.int p4), .val (.ref b34), .unset, .unset, .unset, .unset, .unset] [(.long q2), (.int (2 : Int32)), (.ref b34)])) _
    exact kq)
  obtain ⟨cl47, Ar47, q47, S47, M47, H47, Gf47⟩ := id V44'
  have hi48 : ¬ ((2 : Int32) < 0 ∨ cl47.slots.size ≤ ((2 : Int32)).toNatClampNeg) := (inb_of S47 ⟨by decide, by decide⟩)
  obtain ⟨T49, h49, X49, e49, W49, st49⟩ := stJ X44 hx hZ e44 Ar47 (j := (2 : Int32)) hi48 (g := (mkF m 20 #[.val (.long q0), .second, .val (.long q1), .second, .val (.long q2), .second, .val (.int p3), .val (.int p4), .val (.ref b34), .unset, .unset, .unset, .unset, .unset] [(.long q2), (.int (2 : Int32)), (.ref b34)])) rfl rfl (hb hby at_20)
  have N49 := Fr.snoc X49 N44 g_b34
  have V49 := Arv.set Ar47 q47 S47 M47 H47 Gf47 rfl W49 2 rfl (Nat.le_of_ble_eq_true rfl)
  have V49' : Arv Z h49 b34 k34 .long (3 : Int32) [(.long q0), (.long q1), (.long q2)] (.long (0 : Int64)) := V49
  have G50 : Go p e below A0 (T49.setTop (mkF m 21 #[.val (.long q0), .second, .val (.long q1), .second, .val (.long q2), .second, .val (.int p3), .val (.int p4), .val (.ref b34), .unset, .unset, .unset, .unset, .unset] [])) := fun tq kq => G46 tq (st49 _ kq)
  have f52 := (Nat.le_trans (Nat.le_trans (Nat.le_trans (Nat.le_trans Z0 E34.1) (Keep.of_wr W39).1) (Keep.of_wr W44).1) (Keep.of_wr W49).1)
  obtain ⟨T51, h51, X51, e51, E51, A51, D51, -, st51⟩ := newO X49 hx hZ hown (hw _ (List.mem_of_getElem? (i := 1) rfl)) (hw _ (List.mem_of_getElem? (i := 2) rfl)) (hw _ (List.mem_of_getElem? (i := 3) rfl)) e49 (g := (mkF m 21 #[.val (.long q0), .second, .val (.long q1), .second, .val (.long q2), .second, .val (.int p3), .val (.int p4), .val (.ref b34), .unset, .unset, .unset, .unset, .unset] [])) rfl (hb hby at_21) (by decide) (by decide)
  obtain ⟨b51, g51⟩ : ∃ z, z = h49.size := ⟨_, rfl⟩
  rw [← g51] at A51 D51 st51
  have f53 := (Nat.le_trans (Nat.le_trans (Nat.le_trans (Nat.le_trans (Nat.le_refl h0.size) E34.1) (Keep.of_wr W39).1) (Keep.of_wr W44).1) (Keep.of_wr W49).1)
  have sz_b51 : h0.size ≤ b51 := Nat.le_trans f53 (Nat.le_of_eq g51.symm)
  have g_b51 : n0 ≤ b51 := Nat.le_trans f52 (Nat.le_of_eq g51.symm)
  have ne_b34_b51 : b34 ≠ b51 := Nat.ne_of_lt (Nat.lt_of_lt_of_le V49'.lt (Nat.le_of_eq g51.symm))
  have F51_bits : Fld Z h51 b51 "com/example/ludarc/ludarc/network/State" "bits" "[J" .null := D51 (Or.inr (hw _ (List.mem_of_getElem? (i := 11) rfl))) (ty := (.array .long)) (by decide)
  have G54 : Go p e below A0 (T51.setTop (mkF m 24 #[.val (.long q0), .second, .val (.long q1), .second, .val (.long q2), .second, .val (.int p3), .val (.int p4), .val (.ref b34), .unset, .unset, .unset, .unset, .unset] [(.ref b51)])) := fun tq kq => G50 tq (st51 _ kq)
  have G55 : Go p e below A0 (T51.setTop (mkF m 27 #[.val (.long q0), .second, .val (.long q1), .second, .val (.long q2), .second, .val (.int p3), .val (.int p4), .val (.ref b34), .unset, .unset, .unset, .unset, .unset] [(.ref b34), (.ref b51), (.ref b51)])) := fun tq kq => G54 tq (by
    refine XS.dup X51.here hx rfl (hb hby at_24) rfl rfl ?_
    show Steps p.tables e below (T51.setTop (mkF m 25 #[.val (.long q0), .second, .val (.long q1), .second, .val (.long q2), .second, .val (.int p3), .val (.int p4), .val (.ref b34), .unset, .unset, .unset, .unset, .unset] [(.ref b51), (.ref b51)])) _
    refine XS.aload X51.here hx rfl (hb hby at_25) rfl rfl ?_
    show Steps p.tables e below (T51.setTop (mkF m 27 #[.val (.long q0), .second, .val (.long q1), .second, .val (.long q2), .second, .val (.int p3), .val (.int p4), .val (.ref b34), .unset, .unset, .unset, .unset, .unset] [(.ref b34), (.ref b51), (.ref b51)])) _
    exact kq)
  have f57 := (Nat.le_trans f52 E51.1)
  obtain ⟨_, _, ⟨T56, L56, k56, n56⟩, -, X56, ⟨Lc56, hQ56, l56, y56, z56⟩, st56⟩ := X51.specialBack hx (y := (⟨"com/example/ludarc/ludarc/network/State", "<init>", "([J)V"⟩ : MethodName)) rfl hown (mvT hZ (hw _ (List.mem_of_getElem? (i := 4) rfl))) (mvT hZ (hw _ (List.mem_of_getElem? (i := 5) rfl))) (mvT hZ (hw _ (List.mem_of_getElem? (i := 6) rfl))) (by decide) (backOf (W := 1) (rm1 l Z a0 hw [] b51 b34 h51 n0 f57 A51 F51_bits g_b51) hZ (hw _ (List.mem_of_getElem? (i := 6) rfl)) (hw _ (List.mem_of_getElem? (i := 3) rfl)) (by decide) (by decide)) (g := (mkF m 27 #[.val (.long q0), .second, .val (.long q1), .second, .val (.long q2), .second, .val (.int p3), .val (.int p4), .val (.ref b34), .unset, .unset, .unset, .unset, .unset] [(.ref b34), (.ref b51), (.ref b51)])) rfl (by rw [hml]; rfl) (Steps.refl _) (a := b51) (argsL := [(.ref b34)]) (rest := [(.ref b51)]) (lenOf pd_0 rfl) rfl (by show 2 * 0 + _ ≤ _; exact Nat.le_of_eq rfl) (hb hby at_27) (fun _ _ => ⟨rfl, e51, (by decide : 2 + 0 ≤ _), (by decide : 4 + 0 ≤ _)⟩)
  dsimp only [Pt.U, Pt.locs, Pt.cells, Pt.slots] at X56 l56 y56 z56 st56 hQ56
  subst l56 y56 z56
  obtain ⟨rfl, N56q, K56, F56⟩ := hQ56
  have N56 := Fr.app N49 N56q
  have G58 : Go p e below A0 (T56.setTop (mkF m 30 #[.val (.long q0), .second, .val (.long q1), .second, .val (.long q2), .second, .val (.int p3), .val (.int p4), .val (.ref b34), .unset, .unset, .unset, .unset, .unset] [(.ref b51)])) := fun tq kq => G55 tq (st56.trans kq)
  have G59 : Go p e below A0 (T56.setTop (mkF m 58 #[.val (.long q0), .second, .val (.long q1), .second, .val (.long q2), .second, .val (.int p3), .val (.int p4), .val (.ref b34), .val (.ref b51), .val (.int ((p3 &&& (2147483647 : Int32)) % (192 : Int32))), .val (.int ((p4 &&& (2147483647 : Int32)) % (192 : Int32))), .unset, .unset] [(.int ((p3 &&& (2147483647 : Int32)) % (192 : Int32))), (.ref b51)])) := fun tq kq => G58 tq (by
    refine XS.astore X56.here hx rfl (hb hby at_30) rfl rfl (l' := #[.val (.long q0), .second, .val (.long q1), .second, .val (.long q2), .second, .val (.int p3), .val (.int p4), .val (.ref b34), .val (.ref b51), .unset, .unset, .unset, .unset]) rfl ?_
    show Steps p.tables e below (T56.setTop (mkF m 32 #[.val (.long q0), .second, .val (.long q1), .second, .val (.long q2), .second, .val (.int p3), .val (.int p4), .val (.ref b34), .val (.ref b51), .unset, .unset, .unset, .unset] [])) _
    refine XS.iload X56.here hx rfl (hb hby at_32) rfl ?_
    show Steps p.tables e below (T56.setTop (mkF m 34 #[.val (.long q0), .second, .val (.long q1), .second, .val (.long q2), .second, .val (.int p3), .val (.int p4), .val (.ref b34), .val (.ref b51), .unset, .unset, .unset, .unset] [(.int p3)])) _
    refine X56.ldcInt hx hown (mvT hZ (hw _ (List.mem_of_getElem? (i := 12) rfl))) (g := (mkF m 34 #[.val (.long q0), .second, .val (.long q1), .second, .val (.long q2), .second, .val (.int p3), .val (.int p4), .val (.ref b34), .val (.ref b51), .unset, .unset, .unset, .unset] [(.int p3)])) rfl (hb hby at_34) _ ?_
    show Steps p.tables e below (T56.setTop (mkF m 36 #[.val (.long q0), .second, .val (.long q1), .second, .val (.long q2), .second, .val (.int p3), .val (.int p4), .val (.ref b34), .val (.ref b51), .unset, .unset, .unset, .unset] [(.int (2147483647 : Int32)), (.int p3)])) _
    refine XS.iand X56.here hx rfl (hb hby at_36) rfl ?_
    show Steps p.tables e below (T56.setTop (mkF m 37 #[.val (.long q0), .second, .val (.long q1), .second, .val (.long q2), .second, .val (.int p3), .val (.int p4), .val (.ref b34), .val (.ref b51), .unset, .unset, .unset, .unset] [(.int (p3 &&& (2147483647 : Int32)))])) _
    refine XS.sipush X56.here hx rfl (hb hby at_37) ?_
    show Steps p.tables e below (T56.setTop (mkF m 40 #[.val (.long q0), .second, .val (.long q1), .second, .val (.long q2), .second, .val (.int p3), .val (.int p4), .val (.ref b34), .val (.ref b51), .unset, .unset, .unset, .unset] [(.int (192 : Int32)), (.int (p3 &&& (2147483647 : Int32)))])) _
    refine iremM X56 hx rfl (hb hby at_40) rfl (by decide) ?_
    show Steps p.tables e below (T56.setTop (mkF m 41 #[.val (.long q0), .second, .val (.long q1), .second, .val (.long q2), .second, .val (.int p3), .val (.int p4), .val (.ref b34), .val (.ref b51), .unset, .unset, .unset, .unset] [(.int ((p3 &&& (2147483647 : Int32)) % (192 : Int32)))])) _
    refine XS.istore X56.here hx rfl (hb hby at_41) rfl (l' := #[.val (.long q0), .second, .val (.long q1), .second, .val (.long q2), .second, .val (.int p3), .val (.int p4), .val (.ref b34), .val (.ref b51), .val (.int ((p3 &&& (2147483647 : Int32)) % (192 : Int32))), .unset, .unset, .unset]) rfl ?_
    show Steps p.tables e below (T56.setTop (mkF m 43 #[.val (.long q0), .second, .val (.long q1), .second, .val (.long q2), .second, .val (.int p3), .val (.int p4), .val (.ref b34), .val (.ref b51), .val (.int ((p3 &&& (2147483647 : Int32)) % (192 : Int32))), .unset, .unset, .unset] [])) _
    refine XS.iload X56.here hx rfl (hb hby at_43) rfl ?_
    show Steps p.tables e below (T56.setTop (mkF m 45 #[.val (.long q0), .second, .val (.long q1), .second, .val (.long q2), .second, .val (.int p3), .val (.int p4), .val (.ref b34), .val (.ref b51), .val (.int ((p3 &&& (2147483647 : Int32)) % (192 : Int32))), .unset, .unset, .unset] [(.int p4)])) _
    refine X56.ldcInt hx hown (mvT hZ (hw _ (List.mem_of_getElem? (i := 12) rfl))) (g := (mkF m 45 #[.val (.long q0), .second, .val (.long q1), .second, .val (.long q2), .second, .val (.int p3), .val (.int p4), .val (.ref b34), .val (.ref b51), .val (.int ((p3 &&& (2147483647 : Int32)) % (192 : Int32))), .unset, .unset, .unset] [(.int p4)])) rfl (hb hby at_45) _ ?_
    show Steps p.tables e below (T56.setTop (mkF m 47 #[.val (.long q0), .second, .val (.long q1), .second, .val (.long q2), .second, .val (.int p3), .val (.int p4), .val (.ref b34), .val (.ref b51), .val (.int ((p3 &&& (2147483647 : Int32)) % (192 : Int32))), .unset, .unset, .unset] [(.int (2147483647 : Int32)), (.int p4)])) _
    refine XS.iand X56.here hx rfl (hb hby at_47) rfl ?_
    show Steps p.tables e below (T56.setTop (mkF m 48 #[.val (.long q0), .second, .val (.long q1), .second, .val (.long q2), .second, .val (.int p3), .val (.int p4), .val (.ref b34), .val (.ref b51), .val (.int ((p3 &&& (2147483647 : Int32)) % (192 : Int32))), .unset, .unset, .unset] [(.int (p4 &&& (2147483647 : Int32)))])) _
    refine XS.sipush X56.here hx rfl (hb hby at_48) ?_
    show Steps p.tables e below (T56.setTop (mkF m 51 #[.val (.long q0), .second, .val (.long q1), .second, .val (.long q2), .second, .val (.int p3), .val (.int p4), .val (.ref b34), .val (.ref b51), .val (.int ((p3 &&& (2147483647 : Int32)) % (192 : Int32))), .unset, .unset, .unset] [(.int (192 : Int32)), (.int (p4 &&& (2147483647 : Int32)))])) _
    refine iremM X56 hx rfl (hb hby at_51) rfl (by decide) ?_
    show Steps p.tables e below (T56.setTop (mkF m 52 #[.val (.long q0), .second, .val (.long q1), .second, .val (.long q2), .second, .val (.int p3), .val (.int p4), .val (.ref b34), .val (.ref b51), .val (.int ((p3 &&& (2147483647 : Int32)) % (192 : Int32))), .unset, .unset, .unset] [(.int ((p4 &&& (2147483647 : Int32)) % (192 : Int32)))])) _
    refine XS.istore X56.here hx rfl (hb hby at_52) rfl (l' := #[.val (.long q0), .second, .val (.long q1), .second, .val (.long q2), .second, .val (.int p3), .val (.int p4), .val (.ref b34), .val (.ref b51), .val (.int ((p3 &&& (2147483647 : Int32)) % (192 : Int32))), .val (.int ((p4 &&& (2147483647 : Int32)) % (192 : Int32))), .unset, .unset]) rfl ?_
    show Steps p.tables e below (T56.setTop (mkF m 54 #[.val (.long q0), .second, .val (.long q1), .second, .val (.long q2), .second, .val (.int p3), .val (.int p4), .val (.ref b34), .val (.ref b51), .val (.int ((p3 &&& (2147483647 : Int32)) % (192 : Int32))), .val (.int ((p4 &&& (2147483647 : Int32)) % (192 : Int32))), .unset, .unset] [])) _
    refine XS.aload X56.here hx rfl (hb hby at_54) rfl rfl ?_
    show Steps p.tables e below (T56.setTop (mkF m 56 #[.val (.long q0), .second, .val (.long q1), .second, .val (.long q2), .second, .val (.int p3), .val (.int p4), .val (.ref b34), .val (.ref b51), .val (.int ((p3 &&& (2147483647 : Int32)) % (192 : Int32))), .val (.int ((p4 &&& (2147483647 : Int32)) % (192 : Int32))), .unset, .unset] [(.ref b51)])) _
    refine XS.iload X56.here hx rfl (hb hby at_56) rfl ?_
    show Steps p.tables e below (T56.setTop (mkF m 58 #[.val (.long q0), .second, .val (.long q1), .second, .val (.long q2), .second, .val (.int p3), .val (.int p4), .val (.ref b34), .val (.ref b51), .val (.int ((p3 &&& (2147483647 : Int32)) % (192 : Int32))), .val (.int ((p4 &&& (2147483647 : Int32)) % (192 : Int32))), .unset, .unset] [(.int ((p3 &&& (2147483647 : Int32)) % (192 : Int32))), (.ref b51)])) _
    exact kq)
  have f61 := (Nat.le_trans f57 K56.1)
  have f62 := ((V49'.ext E51).keep K56 (ninS ne_b34_b51 nin0))
  have f63 := (A51.keep K56)
  obtain ⟨cq60, kq60, q60a, q60b, q60c⟩ := isOf hZ rfl f63
  obtain ⟨_, _, ⟨T60, L60, k60, n60⟩, -, X60, ⟨Lc60, hQ60, l60, y60, z60⟩, st60⟩ := X56.virtualBack hx (y := (⟨"com/example/ludarc/ludarc/network/State", "holds", "(I)Z"⟩ : MethodName)) (z := (⟨"com/example/ludarc/ludarc/network/State", "holds", "(I)Z"⟩ : MethodName)) hown (mvT hZ (hw _ (List.mem_of_getElem? (i := 13) rfl))) (mvT hZ (hw _ (List.mem_of_getElem? (i := 14) rfl))) (notFace_of_selects (args := #[]) (mvT hZ (hw _ (List.mem_of_getElem? (i := 16) rfl)))) (mvT hZ (hw _ (List.mem_of_getElem? (i := 16) rfl))) (mvT hZ (hw _ (List.mem_of_getElem? (i := 15) rfl))) (by decide) (backOf (W := 0) (rm3 l Z a0 hw [] b51 b34 ((p3 &&& (2147483647 : Int32)) % (192 : Int32)) k34 [(.long q0), (.long q1), (.long q2)] (own_word q0 q1 q2 ((p3 &&& (2147483647 : Int32)) % (192 : Int32))) T56.heap n0 f61 F56 f62 (own_jin (own_in p3)) (own_el (own_in p3) _ _ _ _)) hZ (hw _ (List.mem_of_getElem? (i := 17) rfl)) (hw _ (List.mem_of_getElem? (i := 3) rfl)) (by decide) (by decide)) q60a q60c (g := (mkF m 58 #[.val (.long q0), .second, .val (.long q1), .second, .val (.long q2), .second, .val (.int p3), .val (.int p4), .val (.ref b34), .val (.ref b51), .val (.int ((p3 &&& (2147483647 : Int32)) % (192 : Int32))), .val (.int ((p4 &&& (2147483647 : Int32)) % (192 : Int32))), .unset, .unset] [(.int ((p3 &&& (2147483647 : Int32)) % (192 : Int32))), (.ref b51)])) rfl (by rw [hml]; rfl) (Steps.refl _) (argsL := [(.int ((p3 &&& (2147483647 : Int32)) % (192 : Int32)))]) (rest := []) (lenOf pd_1 rfl) rfl (by show 2 * 0 + _ ≤ _; exact Nat.le_of_eq rfl) (hb hby at_58) (fun _ _ => ⟨rfl, rfl, (by decide : 2 + 0 ≤ _), (by decide : 4 + 0 ≤ _)⟩)
  dsimp only [Pt.U, Pt.locs, Pt.cells, Pt.slots] at X60 l60 y60 z60 st60 hQ60
  subst l60 y60 z60
  obtain ⟨rfl, N60q, e60⟩ := hQ60
  have N60 := Fr.app N56 N60q
  have G64 : Go p e below A0 (T60.setTop (mkF m 61 #[.val (.long q0), .second, .val (.long q1), .second, .val (.long q2), .second, .val (.int p3), .val (.int p4), .val (.ref b34), .val (.ref b51), .val (.int ((p3 &&& (2147483647 : Int32)) % (192 : Int32))), .val (.int ((p4 &&& (2147483647 : Int32)) % (192 : Int32))), .unset, .unset] [(.int (own_b (¬ ((own_word q0 q1 q2 ((p3 &&& (2147483647 : Int32)) % (192 : Int32))) &&& ((1 : Int64) <<< (((p3 &&& (2147483647 : Int32)) % (192 : Int32)) &&& 0x3f).toInt64)) = (0 : Int64))))])) := fun tq kq => G59 tq (st60.trans kq)
  have G65 : Go p e below A0 (T60.setTop (mkF m 67 #[.val (.long q0), .second, .val (.long q1), .second, .val (.long q2), .second, .val (.int p3), .val (.int p4), .val (.ref b34), .val (.ref b51), .val (.int ((p3 &&& (2147483647 : Int32)) % (192 : Int32))), .val (.int ((p4 &&& (2147483647 : Int32)) % (192 : Int32))), .val (.int (own_b (¬ ((own_word q0 q1 q2 ((p3 &&& (2147483647 : Int32)) % (192 : Int32))) &&& ((1 : Int64) <<< (((p3 &&& (2147483647 : Int32)) % (192 : Int32)) &&& 0x3f).toInt64)) = (0 : Int64)))), .unset] [(.int ((p4 &&& (2147483647 : Int32)) % (192 : Int32))), (.ref b51)])) := fun tq kq => G64 tq (by
    refine XS.istore X60.here hx rfl (hb hby at_61) rfl (l' := #[.val (.long q0), .second, .val (.long q1), .second, .val (.long q2), .second, .val (.int p3), .val (.int p4), .val (.ref b34), .val (.ref b51), .val (.int ((p3 &&& (2147483647 : Int32)) % (192 : Int32))), .val (.int ((p4 &&& (2147483647 : Int32)) % (192 : Int32))), .val (.int (own_b (¬ ((own_word q0 q1 q2 ((p3 &&& (2147483647 : Int32)) % (192 : Int32))) &&& ((1 : Int64) <<< (((p3 &&& (2147483647 : Int32)) % (192 : Int32)) &&& 0x3f).toInt64)) = (0 : Int64)))), .unset]) rfl ?_
    show Steps p.tables e below (T60.setTop (mkF m 63 #[.val (.long q0), .second, .val (.long q1), .second, .val (.long q2), .second, .val (.int p3), .val (.int p4), .val (.ref b34), .val (.ref b51), .val (.int ((p3 &&& (2147483647 : Int32)) % (192 : Int32))), .val (.int ((p4 &&& (2147483647 : Int32)) % (192 : Int32))), .val (.int (own_b (¬ ((own_word q0 q1 q2 ((p3 &&& (2147483647 : Int32)) % (192 : Int32))) &&& ((1 : Int64) <<< (((p3 &&& (2147483647 : Int32)) % (192 : Int32)) &&& 0x3f).toInt64)) = (0 : Int64)))), .unset] [])) _
    refine XS.aload X60.here hx rfl (hb hby at_63) rfl rfl ?_
    show Steps p.tables e below (T60.setTop (mkF m 65 #[.val (.long q0), .second, .val (.long q1), .second, .val (.long q2), .second, .val (.int p3), .val (.int p4), .val (.ref b34), .val (.ref b51), .val (.int ((p3 &&& (2147483647 : Int32)) % (192 : Int32))), .val (.int ((p4 &&& (2147483647 : Int32)) % (192 : Int32))), .val (.int (own_b (¬ ((own_word q0 q1 q2 ((p3 &&& (2147483647 : Int32)) % (192 : Int32))) &&& ((1 : Int64) <<< (((p3 &&& (2147483647 : Int32)) % (192 : Int32)) &&& 0x3f).toInt64)) = (0 : Int64)))), .unset] [(.ref b51)])) _
    refine XS.iload X60.here hx rfl (hb hby at_65) rfl ?_
    show Steps p.tables e below (T60.setTop (mkF m 67 #[.val (.long q0), .second, .val (.long q1), .second, .val (.long q2), .second, .val (.int p3), .val (.int p4), .val (.ref b34), .val (.ref b51), .val (.int ((p3 &&& (2147483647 : Int32)) % (192 : Int32))), .val (.int ((p4 &&& (2147483647 : Int32)) % (192 : Int32))), .val (.int (own_b (¬ ((own_word q0 q1 q2 ((p3 &&& (2147483647 : Int32)) % (192 : Int32))) &&& ((1 : Int64) <<< (((p3 &&& (2147483647 : Int32)) % (192 : Int32)) &&& 0x3f).toInt64)) = (0 : Int64)))), .unset] [(.int ((p4 &&& (2147483647 : Int32)) % (192 : Int32))), (.ref b51)])) _
    exact kq)
  obtain ⟨cq66, kq66, q66a, q66b, q66c⟩ := isOf hZ e60 f63
  obtain ⟨_, _, ⟨T66, L66, k66, n66⟩, -, X66, ⟨Lc66, hQ66, l66, y66, z66⟩, st66⟩ := X60.virtualBack hx (y := (⟨"com/example/ludarc/ludarc/network/State", "holds", "(I)Z"⟩ : MethodName)) (z := (⟨"com/example/ludarc/ludarc/network/State", "holds", "(I)Z"⟩ : MethodName)) hown (mvT hZ (hw _ (List.mem_of_getElem? (i := 13) rfl))) (mvT hZ (hw _ (List.mem_of_getElem? (i := 14) rfl))) (notFace_of_selects (args := #[]) (mvT hZ (hw _ (List.mem_of_getElem? (i := 16) rfl)))) (mvT hZ (hw _ (List.mem_of_getElem? (i := 16) rfl))) (mvT hZ (hw _ (List.mem_of_getElem? (i := 15) rfl))) (by decide) (backOf (W := 0) (rm3 l Z a0 hw [] b51 b34 ((p4 &&& (2147483647 : Int32)) % (192 : Int32)) k34 [(.long q0), (.long q1), (.long q2)] (own_word q0 q1 q2 ((p4 &&& (2147483647 : Int32)) % (192 : Int32))) T56.heap n0 f61 F56 f62 (own_jin (own_in p4)) (own_el (own_in p4) _ _ _ _)) hZ (hw _ (List.mem_of_getElem? (i := 17) rfl)) (hw _ (List.mem_of_getElem? (i := 3) rfl)) (by decide) (by decide)) q66a q66c (g := (mkF m 67 #[.val (.long q0), .second, .val (.long q1), .second, .val (.long q2), .second, .val (.int p3), .val (.int p4), .val (.ref b34), .val (.ref b51), .val (.int ((p3 &&& (2147483647 : Int32)) % (192 : Int32))), .val (.int ((p4 &&& (2147483647 : Int32)) % (192 : Int32))), .val (.int (own_b (¬ ((own_word q0 q1 q2 ((p3 &&& (2147483647 : Int32)) % (192 : Int32))) &&& ((1 : Int64) <<< (((p3 &&& (2147483647 : Int32)) % (192 : Int32)) &&& 0x3f).toInt64)) = (0 : Int64)))), .unset] [(.int ((p4 &&& (2147483647 : Int32)) % (192 : Int32))), (.ref b51)])) rfl (by rw [hml]; rfl) (Steps.refl _) (argsL := [(.int ((p4 &&& (2147483647 : Int32)) % (192 : Int32)))]) (rest := []) (lenOf pd_1 rfl) rfl (by show 2 * 0 + _ ≤ _; exact Nat.le_of_eq rfl) (hb hby at_67) (fun _ _ => ⟨rfl, e60, (by decide : 2 + 0 ≤ _), (by decide : 4 + 0 ≤ _)⟩)
  dsimp only [Pt.U, Pt.locs, Pt.cells, Pt.slots] at X66 l66 y66 z66 st66 hQ66
  subst l66 y66 z66
  obtain ⟨rfl, N66q, e66⟩ := hQ66
  have N66 := Fr.app N60 N66q
  have G67 : Go p e below A0 (T66.setTop (mkF m 70 #[.val (.long q0), .second, .val (.long q1), .second, .val (.long q2), .second, .val (.int p3), .val (.int p4), .val (.ref b34), .val (.ref b51), .val (.int ((p3 &&& (2147483647 : Int32)) % (192 : Int32))), .val (.int ((p4 &&& (2147483647 : Int32)) % (192 : Int32))), .val (.int (own_b (¬ ((own_word q0 q1 q2 ((p3 &&& (2147483647 : Int32)) % (192 : Int32))) &&& ((1 : Int64) <<< (((p3 &&& (2147483647 : Int32)) % (192 : Int32)) &&& 0x3f).toInt64)) = (0 : Int64)))), .unset] [(.int (own_b (¬ ((own_word q0 q1 q2 ((p4 &&& (2147483647 : Int32)) % (192 : Int32))) &&& ((1 : Int64) <<< (((p4 &&& (2147483647 : Int32)) % (192 : Int32)) &&& 0x3f).toInt64)) = (0 : Int64))))])) := fun tq kq => G65 tq (st66.trans kq)
  have G68 : Go p e below A0 (T66.setTop (mkF m 80 #[.val (.long q0), .second, .val (.long q1), .second, .val (.long q2), .second, .val (.int p3), .val (.int p4), .val (.ref b34), .val (.ref b51), .val (.int ((p3 &&& (2147483647 : Int32)) % (192 : Int32))), .val (.int ((p4 &&& (2147483647 : Int32)) % (192 : Int32))), .val (.int (own_b (¬ ((own_word q0 q1 q2 ((p3 &&& (2147483647 : Int32)) % (192 : Int32))) &&& ((1 : Int64) <<< (((p3 &&& (2147483647 : Int32)) % (192 : Int32)) &&& 0x3f).toInt64)) = (0 : Int64)))), .val (.int (own_b (¬ ((own_word q0 q1 q2 ((p4 &&& (2147483647 : Int32)) % (192 : Int32))) &&& ((1 : Int64) <<< (((p4 &&& (2147483647 : Int32)) % (192 : Int32)) &&& 0x3f).toInt64)) = (0 : Int64))))] [(.int ((p3 &&& (2147483647 : Int32)) % (192 : Int32))), (.long q2), (.long q1), (.long q0), (.int (own_b (¬ ((own_word q0 q1 q2 ((p3 &&& (2147483647 : Int32)) % (192 : Int32))) &&& ((1 : Int64) <<< (((p3 &&& (2147483647 : Int32)) % (192 : Int32)) &&& 0x3f).toInt64)) = (0 : Int64))))])) := fun tq kq => G67 tq (by
    refine XS.istore X66.here hx rfl (hb hby at_70) rfl (l' := #[.val (.long q0), .second, .val (.long q1), .second, .val (.long q2), .second, .val (.int p3), .val (.int p4), .val (.ref b34), .val (.ref b51), .val (.int ((p3 &&& (2147483647 : Int32)) % (192 : Int32))), .val (.int ((p4 &&& (2147483647 : Int32)) % (192 : Int32))), .val (.int (own_b (¬ ((own_word q0 q1 q2 ((p3 &&& (2147483647 : Int32)) % (192 : Int32))) &&& ((1 : Int64) <<< (((p3 &&& (2147483647 : Int32)) % (192 : Int32)) &&& 0x3f).toInt64)) = (0 : Int64)))), .val (.int (own_b (¬ ((own_word q0 q1 q2 ((p4 &&& (2147483647 : Int32)) % (192 : Int32))) &&& ((1 : Int64) <<< (((p4 &&& (2147483647 : Int32)) % (192 : Int32)) &&& 0x3f).toInt64)) = (0 : Int64))))]) rfl ?_
    show Steps p.tables e below (T66.setTop (mkF m 72 #[.val (.long q0), .second, .val (.long q1), .second, .val (.long q2), .second, .val (.int p3), .val (.int p4), .val (.ref b34), .val (.ref b51), .val (.int ((p3 &&& (2147483647 : Int32)) % (192 : Int32))), .val (.int ((p4 &&& (2147483647 : Int32)) % (192 : Int32))), .val (.int (own_b (¬ ((own_word q0 q1 q2 ((p3 &&& (2147483647 : Int32)) % (192 : Int32))) &&& ((1 : Int64) <<< (((p3 &&& (2147483647 : Int32)) % (192 : Int32)) &&& 0x3f).toInt64)) = (0 : Int64)))), .val (.int (own_b (¬ ((own_word q0 q1 q2 ((p4 &&& (2147483647 : Int32)) % (192 : Int32))) &&& ((1 : Int64) <<< (((p4 &&& (2147483647 : Int32)) % (192 : Int32)) &&& 0x3f).toInt64)) = (0 : Int64))))] [])) _
    refine XS.iload X66.here hx rfl (hb hby at_72) rfl ?_
    show Steps p.tables e below (T66.setTop (mkF m 74 #[.val (.long q0), .second, .val (.long q1), .second, .val (.long q2), .second, .val (.int p3), .val (.int p4), .val (.ref b34), .val (.ref b51), .val (.int ((p3 &&& (2147483647 : Int32)) % (192 : Int32))), .val (.int ((p4 &&& (2147483647 : Int32)) % (192 : Int32))), .val (.int (own_b (¬ ((own_word q0 q1 q2 ((p3 &&& (2147483647 : Int32)) % (192 : Int32))) &&& ((1 : Int64) <<< (((p3 &&& (2147483647 : Int32)) % (192 : Int32)) &&& 0x3f).toInt64)) = (0 : Int64)))), .val (.int (own_b (¬ ((own_word q0 q1 q2 ((p4 &&& (2147483647 : Int32)) % (192 : Int32))) &&& ((1 : Int64) <<< (((p4 &&& (2147483647 : Int32)) % (192 : Int32)) &&& 0x3f).toInt64)) = (0 : Int64))))] [(.int (own_b (¬ ((own_word q0 q1 q2 ((p3 &&& (2147483647 : Int32)) % (192 : Int32))) &&& ((1 : Int64) <<< (((p3 &&& (2147483647 : Int32)) % (192 : Int32)) &&& 0x3f).toInt64)) = (0 : Int64))))])) _
    refine XS.lloadN X66.here hx rfl (hb hby at_74) rfl ?_
    show Steps p.tables e below (T66.setTop (mkF m 75 #[.val (.long q0), .second, .val (.long q1), .second, .val (.long q2), .second, .val (.int p3), .val (.int p4), .val (.ref b34), .val (.ref b51), .val (.int ((p3 &&& (2147483647 : Int32)) % (192 : Int32))), .val (.int ((p4 &&& (2147483647 : Int32)) % (192 : Int32))), .val (.int (own_b (¬ ((own_word q0 q1 q2 ((p3 &&& (2147483647 : Int32)) % (192 : Int32))) &&& ((1 : Int64) <<< (((p3 &&& (2147483647 : Int32)) % (192 : Int32)) &&& 0x3f).toInt64)) = (0 : Int64)))), .val (.int (own_b (¬ ((own_word q0 q1 q2 ((p4 &&& (2147483647 : Int32)) % (192 : Int32))) &&& ((1 : Int64) <<< (((p4 &&& (2147483647 : Int32)) % (192 : Int32)) &&& 0x3f).toInt64)) = (0 : Int64))))] [(.long q0), (.int (own_b (¬ ((own_word q0 q1 q2 ((p3 &&& (2147483647 : Int32)) % (192 : Int32))) &&& ((1 : Int64) <<< (((p3 &&& (2147483647 : Int32)) % (192 : Int32)) &&& 0x3f).toInt64)) = (0 : Int64))))])) _
    refine XS.lloadN X66.here hx rfl (hb hby at_75) rfl ?_
    show Steps p.tables e below (T66.setTop (mkF m 76 #[.val (.long q0), .second, .val (.long q1), .second, .val (.long q2), .second, .val (.int p3), .val (.int p4), .val (.ref b34), .val (.ref b51), .val (.int ((p3 &&& (2147483647 : Int32)) % (192 : Int32))), .val (.int ((p4 &&& (2147483647 : Int32)) % (192 : Int32))), .val (.int (own_b (¬ ((own_word q0 q1 q2 ((p3 &&& (2147483647 : Int32)) % (192 : Int32))) &&& ((1 : Int64) <<< (((p3 &&& (2147483647 : Int32)) % (192 : Int32)) &&& 0x3f).toInt64)) = (0 : Int64)))), .val (.int (own_b (¬ ((own_word q0 q1 q2 ((p4 &&& (2147483647 : Int32)) % (192 : Int32))) &&& ((1 : Int64) <<< (((p4 &&& (2147483647 : Int32)) % (192 : Int32)) &&& 0x3f).toInt64)) = (0 : Int64))))] [(.long q1), (.long q0), (.int (own_b (¬ ((own_word q0 q1 q2 ((p3 &&& (2147483647 : Int32)) % (192 : Int32))) &&& ((1 : Int64) <<< (((p3 &&& (2147483647 : Int32)) % (192 : Int32)) &&& 0x3f).toInt64)) = (0 : Int64))))])) _
    refine XS.lload X66.here hx rfl (hb hby at_76) rfl ?_
    show Steps p.tables e below (T66.setTop (mkF m 78 #[.val (.long q0), .second, .val (.long q1), .second, .val (.long q2), .second, .val (.int p3), .val (.int p4), .val (.ref b34), .val (.ref b51), .val (.int ((p3 &&& (2147483647 : Int32)) % (192 : Int32))), .val (.int ((p4 &&& (2147483647 : Int32)) % (192 : Int32))), .val (.int (own_b (¬ ((own_word q0 q1 q2 ((p3 &&& (2147483647 : Int32)) % (192 : Int32))) &&& ((1 : Int64) <<< (((p3 &&& (2147483647 : Int32)) % (192 : Int32)) &&& 0x3f).toInt64)) = (0 : Int64)))), .val (.int (own_b (¬ ((own_word q0 q1 q2 ((p4 &&& (2147483647 : Int32)) % (192 : Int32))) &&& ((1 : Int64) <<< (((p4 &&& (2147483647 : Int32)) % (192 : Int32)) &&& 0x3f).toInt64)) = (0 : Int64))))] [(.long q2), (.long q1), (.long q0), (.int (own_b (¬ ((own_word q0 q1 q2 ((p3 &&& (2147483647 : Int32)) % (192 : Int32))) &&& ((1 : Int64) <<< (((p3 &&& (2147483647 : Int32)) % (192 : Int32)) &&& 0x3f).toInt64)) = (0 : Int64))))])) _
    refine XS.iload X66.here hx rfl (hb hby at_78) rfl ?_
    show Steps p.tables e below (T66.setTop (mkF m 80 #[.val (.long q0), .second, .val (.long q1), .second, .val (.long q2), .second, .val (.int p3), .val (.int p4), .val (.ref b34), .val (.ref b51), .val (.int ((p3 &&& (2147483647 : Int32)) % (192 : Int32))), .val (.int ((p4 &&& (2147483647 : Int32)) % (192 : Int32))), .val (.int (own_b (¬ ((own_word q0 q1 q2 ((p3 &&& (2147483647 : Int32)) % (192 : Int32))) &&& ((1 : Int64) <<< (((p3 &&& (2147483647 : Int32)) % (192 : Int32)) &&& 0x3f).toInt64)) = (0 : Int64)))), .val (.int (own_b (¬ ((own_word q0 q1 q2 ((p4 &&& (2147483647 : Int32)) % (192 : Int32))) &&& ((1 : Int64) <<< (((p4 &&& (2147483647 : Int32)) % (192 : Int32)) &&& 0x3f).toInt64)) = (0 : Int64))))] [(.int ((p3 &&& (2147483647 : Int32)) % (192 : Int32))), (.long q2), (.long q1), (.long q0), (.int (own_b (¬ ((own_word q0 q1 q2 ((p3 &&& (2147483647 : Int32)) % (192 : Int32))) &&& ((1 : Int64) <<< (((p3 &&& (2147483647 : Int32)) % (192 : Int32)) &&& 0x3f).toInt64)) = (0 : Int64))))])) _
    exact kq)
  obtain ⟨_, _, ⟨T69, L69, k69, n69⟩, -, X69, ⟨Lc69, hQ69, l69, y69, z69⟩, st69⟩ := Jvm.LawKit.callS X66 hx (y := (⟨"com/example/ludarc/ludarc/network/StateHoldsPinLaw", "expected", "(JJJI)Z"⟩ : MethodName)) hown (mvT hZ (hw _ (List.mem_of_getElem? (i := 18) rfl))) (mvT hZ (hw _ (List.mem_of_getElem? (i := 19) rfl))) (mvT hZ (hw _ (List.mem_of_getElem? (i := 20) rfl))) (mvT hZ (hw _ (List.mem_of_getElem? (i := 21) rfl))) (by decide) (backOf (W := 1) (rm4 l Z a0 hw [] q0 q1 q2 ((p3 &&& (2147483647 : Int32)) % (192 : Int32)) T56.heap n0 f61) hZ (hw _ (List.mem_of_getElem? (i := 21) rfl)) (hw _ (List.mem_of_getElem? (i := 20) rfl)) (by decide) (by decide)) (g := (mkF m 80 #[.val (.long q0), .second, .val (.long q1), .second, .val (.long q2), .second, .val (.int p3), .val (.int p4), .val (.ref b34), .val (.ref b51), .val (.int ((p3 &&& (2147483647 : Int32)) % (192 : Int32))), .val (.int ((p4 &&& (2147483647 : Int32)) % (192 : Int32))), .val (.int (own_b (¬ ((own_word q0 q1 q2 ((p3 &&& (2147483647 : Int32)) % (192 : Int32))) &&& ((1 : Int64) <<< (((p3 &&& (2147483647 : Int32)) % (192 : Int32)) &&& 0x3f).toInt64)) = (0 : Int64)))), .val (.int (own_b (¬ ((own_word q0 q1 q2 ((p4 &&& (2147483647 : Int32)) % (192 : Int32))) &&& ((1 : Int64) <<< (((p4 &&& (2147483647 : Int32)) % (192 : Int32)) &&& 0x3f).toInt64)) = (0 : Int64))))] [(.int ((p3 &&& (2147483647 : Int32)) % (192 : Int32))), (.long q2), (.long q1), (.long q0), (.int (own_b (¬ ((own_word q0 q1 q2 ((p3 &&& (2147483647 : Int32)) % (192 : Int32))) &&& ((1 : Int64) <<< (((p3 &&& (2147483647 : Int32)) % (192 : Int32)) &&& 0x3f).toInt64)) = (0 : Int64))))])) rfl (by rw [hml]; rfl) (argsL := [(.long q0), (.long q1), (.long q2), (.int ((p3 &&& (2147483647 : Int32)) % (192 : Int32)))]) (rest := [(.int (own_b (¬ ((own_word q0 q1 q2 ((p3 &&& (2147483647 : Int32)) % (192 : Int32))) &&& ((1 : Int64) <<< (((p3 &&& (2147483647 : Int32)) % (192 : Int32)) &&& 0x3f).toInt64)) = (0 : Int64))))]) (lenOf pd_2 rfl) rfl (by show 2 * 0 + _ ≤ _; exact Nat.le_of_eq rfl) (hb hby at_80) (fun _ _ => ⟨rfl, e66, (by decide : 2 + 0 ≤ _), (by decide : 4 + 0 ≤ _)⟩)
  dsimp only [Pt.U, Pt.locs, Pt.cells, Pt.slots] at X69 l69 y69 z69 st69 hQ69
  subst l69 y69 z69
  obtain ⟨rfl, N69q, e69⟩ := hQ69
  have N69 := Fr.app N66 N69q
  have G70 : Go p e below A0 (T69.setTop (mkF m 83 #[.val (.long q0), .second, .val (.long q1), .second, .val (.long q2), .second, .val (.int p3), .val (.int p4), .val (.ref b34), .val (.ref b51), .val (.int ((p3 &&& (2147483647 : Int32)) % (192 : Int32))), .val (.int ((p4 &&& (2147483647 : Int32)) % (192 : Int32))), .val (.int (own_b (¬ ((own_word q0 q1 q2 ((p3 &&& (2147483647 : Int32)) % (192 : Int32))) &&& ((1 : Int64) <<< (((p3 &&& (2147483647 : Int32)) % (192 : Int32)) &&& 0x3f).toInt64)) = (0 : Int64)))), .val (.int (own_b (¬ ((own_word q0 q1 q2 ((p4 &&& (2147483647 : Int32)) % (192 : Int32))) &&& ((1 : Int64) <<< (((p4 &&& (2147483647 : Int32)) % (192 : Int32)) &&& 0x3f).toInt64)) = (0 : Int64))))] [(.int (own_b (((((own_word q0 q1 q2 ((p3 &&& (2147483647 : Int32)) % (192 : Int32))).toUInt64 >>> (own_pos ((p3 &&& (2147483647 : Int32)) % (192 : Int32)) &&& 0x3f).toInt64.toUInt64).toInt64) &&& (1 : Int64)) = (1 : Int64)))), (.int (own_b (¬ ((own_word q0 q1 q2 ((p3 &&& (2147483647 : Int32)) % (192 : Int32))) &&& ((1 : Int64) <<< (((p3 &&& (2147483647 : Int32)) % (192 : Int32)) &&& 0x3f).toInt64)) = (0 : Int64))))])) := fun tq kq => G68 tq (st69 _ kq)
  have hf71 : (own_b (¬ ((own_word q0 q1 q2 ((p3 &&& (2147483647 : Int32)) % (192 : Int32))) &&& ((1 : Int64) <<< (((p3 &&& (2147483647 : Int32)) % (192 : Int32)) &&& 0x3f).toInt64)) = (0 : Int64))) = (own_b (((((own_word q0 q1 q2 ((p3 &&& (2147483647 : Int32)) % (192 : Int32))).toUInt64 >>> (own_pos ((p3 &&& (2147483647 : Int32)) % (192 : Int32)) &&& 0x3f).toInt64.toUInt64).toInt64) &&& (1 : Int64)) = (1 : Int64))) := own_beq (own_bits _ _ _ (own_posm (own_in p3)))
  have G72 : Go p e below A0 (T69.setTop (mkF m 94 #[.val (.long q0), .second, .val (.long q1), .second, .val (.long q2), .second, .val (.int p3), .val (.int p4), .val (.ref b34), .val (.ref b51), .val (.int ((p3 &&& (2147483647 : Int32)) % (192 : Int32))), .val (.int ((p4 &&& (2147483647 : Int32)) % (192 : Int32))), .val (.int (own_b (¬ ((own_word q0 q1 q2 ((p3 &&& (2147483647 : Int32)) % (192 : Int32))) &&& ((1 : Int64) <<< (((p3 &&& (2147483647 : Int32)) % (192 : Int32)) &&& 0x3f).toInt64)) = (0 : Int64)))), .val (.int (own_b (¬ ((own_word q0 q1 q2 ((p4 &&& (2147483647 : Int32)) % (192 : Int32))) &&& ((1 : Int64) <<< (((p4 &&& (2147483647 : Int32)) % (192 : Int32)) &&& 0x3f).toInt64)) = (0 : Int64))))] [(.int ((p4 &&& (2147483647 : Int32)) % (192 : Int32))), (.long q2), (.long q1), (.long q0), (.int (own_b (¬ ((own_word q0 q1 q2 ((p4 &&& (2147483647 : Int32)) % (192 : Int32))) &&& ((1 : Int64) <<< (((p4 &&& (2147483647 : Int32)) % (192 : Int32)) &&& 0x3f).toInt64)) = (0 : Int64))))])) := fun tq kq => G70 tq (by
    refine XS.icmpNo X69.here hx rfl (hb hby at_83) rfl (teq hf71).2 ?_
    show Steps p.tables e below (T69.setTop (mkF m 86 #[.val (.long q0), .second, .val (.long q1), .second, .val (.long q2), .second, .val (.int p3), .val (.int p4), .val (.ref b34), .val (.ref b51), .val (.int ((p3 &&& (2147483647 : Int32)) % (192 : Int32))), .val (.int ((p4 &&& (2147483647 : Int32)) % (192 : Int32))), .val (.int (own_b (¬ ((own_word q0 q1 q2 ((p3 &&& (2147483647 : Int32)) % (192 : Int32))) &&& ((1 : Int64) <<< (((p3 &&& (2147483647 : Int32)) % (192 : Int32)) &&& 0x3f).toInt64)) = (0 : Int64)))), .val (.int (own_b (¬ ((own_word q0 q1 q2 ((p4 &&& (2147483647 : Int32)) % (192 : Int32))) &&& ((1 : Int64) <<< (((p4 &&& (2147483647 : Int32)) % (192 : Int32)) &&& 0x3f).toInt64)) = (0 : Int64))))] [])) _
    refine XS.iload X69.here hx rfl (hb hby at_86) rfl ?_
    show Steps p.tables e below (T69.setTop (mkF m 88 #[.val (.long q0), .second, .val (.long q1), .second, .val (.long q2), .second, .val (.int p3), .val (.int p4), .val (.ref b34), .val (.ref b51), .val (.int ((p3 &&& (2147483647 : Int32)) % (192 : Int32))), .val (.int ((p4 &&& (2147483647 : Int32)) % (192 : Int32))), .val (.int (own_b (¬ ((own_word q0 q1 q2 ((p3 &&& (2147483647 : Int32)) % (192 : Int32))) &&& ((1 : Int64) <<< (((p3 &&& (2147483647 : Int32)) % (192 : Int32)) &&& 0x3f).toInt64)) = (0 : Int64)))), .val (.int (own_b (¬ ((own_word q0 q1 q2 ((p4 &&& (2147483647 : Int32)) % (192 : Int32))) &&& ((1 : Int64) <<< (((p4 &&& (2147483647 : Int32)) % (192 : Int32)) &&& 0x3f).toInt64)) = (0 : Int64))))] [(.int (own_b (¬ ((own_word q0 q1 q2 ((p4 &&& (2147483647 : Int32)) % (192 : Int32))) &&& ((1 : Int64) <<< (((p4 &&& (2147483647 : Int32)) % (192 : Int32)) &&& 0x3f).toInt64)) = (0 : Int64))))])) _
    refine XS.lloadN X69.here hx rfl (hb hby at_88) rfl ?_
    show Steps p.tables e below (T69.setTop (mkF m 89 #[.val (.long q0), .second, .val (.long q1), .second, .val (.long q2), .second, .val (.int p3), .val (.int p4), .val (.ref b34), .val (.ref b51), .val (.int ((p3 &&& (2147483647 : Int32)) % (192 : Int32))), .val (.int ((p4 &&& (2147483647 : Int32)) % (192 : Int32))), .val (.int (own_b (¬ ((own_word q0 q1 q2 ((p3 &&& (2147483647 : Int32)) % (192 : Int32))) &&& ((1 : Int64) <<< (((p3 &&& (2147483647 : Int32)) % (192 : Int32)) &&& 0x3f).toInt64)) = (0 : Int64)))), .val (.int (own_b (¬ ((own_word q0 q1 q2 ((p4 &&& (2147483647 : Int32)) % (192 : Int32))) &&& ((1 : Int64) <<< (((p4 &&& (2147483647 : Int32)) % (192 : Int32)) &&& 0x3f).toInt64)) = (0 : Int64))))] [(.long q0), (.int (own_b (¬ ((own_word q0 q1 q2 ((p4 &&& (2147483647 : Int32)) % (192 : Int32))) &&& ((1 : Int64) <<< (((p4 &&& (2147483647 : Int32)) % (192 : Int32)) &&& 0x3f).toInt64)) = (0 : Int64))))])) _
    refine XS.lloadN X69.here hx rfl (hb hby at_89) rfl ?_
    show Steps p.tables e below (T69.setTop (mkF m 90 #[.val (.long q0), .second, .val (.long q1), .second, .val (.long q2), .second, .val (.int p3), .val (.int p4), .val (.ref b34), .val (.ref b51), .val (.int ((p3 &&& (2147483647 : Int32)) % (192 : Int32))), .val (.int ((p4 &&& (2147483647 : Int32)) % (192 : Int32))), .val (.int (own_b (¬ ((own_word q0 q1 q2 ((p3 &&& (2147483647 : Int32)) % (192 : Int32))) &&& ((1 : Int64) <<< (((p3 &&& (2147483647 : Int32)) % (192 : Int32)) &&& 0x3f).toInt64)) = (0 : Int64)))), .val (.int (own_b (¬ ((own_word q0 q1 q2 ((p4 &&& (2147483647 : Int32)) % (192 : Int32))) &&& ((1 : Int64) <<< (((p4 &&& (2147483647 : Int32)) % (192 : Int32)) &&& 0x3f).toInt64)) = (0 : Int64))))] [(.long q1), (.long q0), (.int (own_b (¬ ((own_word q0 q1 q2 ((p4 &&& (2147483647 : Int32)) % (192 : Int32))) &&& ((1 : Int64) <<< (((p4 &&& (2147483647 : Int32)) % (192 : Int32)) &&& 0x3f).toInt64)) = (0 : Int64))))])) _
    refine XS.lload X69.here hx rfl (hb hby at_90) rfl ?_
    show Steps p.tables e below (T69.setTop (mkF m 92 #[.val (.long q0), .second, .val (.long q1), .second, .val (.long q2), .second, .val (.int p3), .val (.int p4), .val (.ref b34), .val (.ref b51), .val (.int ((p3 &&& (2147483647 : Int32)) % (192 : Int32))), .val (.int ((p4 &&& (2147483647 : Int32)) % (192 : Int32))), .val (.int (own_b (¬ ((own_word q0 q1 q2 ((p3 &&& (2147483647 : Int32)) % (192 : Int32))) &&& ((1 : Int64) <<< (((p3 &&& (2147483647 : Int32)) % (192 : Int32)) &&& 0x3f).toInt64)) = (0 : Int64)))), .val (.int (own_b (¬ ((own_word q0 q1 q2 ((p4 &&& (2147483647 : Int32)) % (192 : Int32))) &&& ((1 : Int64) <<< (((p4 &&& (2147483647 : Int32)) % (192 : Int32)) &&& 0x3f).toInt64)) = (0 : Int64))))] [(.long q2), (.long q1), (.long q0), (.int (own_b (¬ ((own_word q0 q1 q2 ((p4 &&& (2147483647 : Int32)) % (192 : Int32))) &&& ((1 : Int64) <<< (((p4 &&& (2147483647 : Int32)) % (192 : Int32)) &&& 0x3f).toInt64)) = (0 : Int64))))])) _
    refine XS.iload X69.here hx rfl (hb hby at_92) rfl ?_
    show Steps p.tables e below (T69.setTop (mkF m 94 #[.val (.long q0), .second, .val (.long q1), .second, .val (.long q2), .second, .val (.int p3), .val (.int p4), .val (.ref b34), .val (.ref b51), .val (.int ((p3 &&& (2147483647 : Int32)) % (192 : Int32))), .val (.int ((p4 &&& (2147483647 : Int32)) % (192 : Int32))), .val (.int (own_b (¬ ((own_word q0 q1 q2 ((p3 &&& (2147483647 : Int32)) % (192 : Int32))) &&& ((1 : Int64) <<< (((p3 &&& (2147483647 : Int32)) % (192 : Int32)) &&& 0x3f).toInt64)) = (0 : Int64)))), .val (.int (own_b (¬ ((own_word q0 q1 q2 ((p4 &&& (2147483647 : Int32)) % (192 : Int32))) &&& ((1 : Int64) <<< (((p4 &&& (2147483647 : Int32)) % (192 : Int32)) &&& 0x3f).toInt64)) = (0 : Int64))))] [(.int ((p4 &&& (2147483647 : Int32)) % (192 : Int32))), (.long q2), (.long q1), (.long q0), (.int (own_b (¬ ((own_word q0 q1 q2 ((p4 &&& (2147483647 : Int32)) % (192 : Int32))) &&& ((1 : Int64) <<< (((p4 &&& (2147483647 : Int32)) % (192 : Int32)) &&& 0x3f).toInt64)) = (0 : Int64))))])) _
    exact kq)
  obtain ⟨_, _, ⟨T73, L73, k73, n73⟩, -, X73, ⟨Lc73, hQ73, l73, y73, z73⟩, st73⟩ := Jvm.LawKit.callS X69 hx (y := (⟨"com/example/ludarc/ludarc/network/StateHoldsPinLaw", "expected", "(JJJI)Z"⟩ : MethodName)) hown (mvT hZ (hw _ (List.mem_of_getElem? (i := 18) rfl))) (mvT hZ (hw _ (List.mem_of_getElem? (i := 19) rfl))) (mvT hZ (hw _ (List.mem_of_getElem? (i := 20) rfl))) (mvT hZ (hw _ (List.mem_of_getElem? (i := 21) rfl))) (by decide) (backOf (W := 1) (rm4 l Z a0 hw [] q0 q1 q2 ((p4 &&& (2147483647 : Int32)) % (192 : Int32)) T56.heap n0 f61) hZ (hw _ (List.mem_of_getElem? (i := 21) rfl)) (hw _ (List.mem_of_getElem? (i := 20) rfl)) (by decide) (by decide)) (g := (mkF m 94 #[.val (.long q0), .second, .val (.long q1), .second, .val (.long q2), .second, .val (.int p3), .val (.int p4), .val (.ref b34), .val (.ref b51), .val (.int ((p3 &&& (2147483647 : Int32)) % (192 : Int32))), .val (.int ((p4 &&& (2147483647 : Int32)) % (192 : Int32))), .val (.int (own_b (¬ ((own_word q0 q1 q2 ((p3 &&& (2147483647 : Int32)) % (192 : Int32))) &&& ((1 : Int64) <<< (((p3 &&& (2147483647 : Int32)) % (192 : Int32)) &&& 0x3f).toInt64)) = (0 : Int64)))), .val (.int (own_b (¬ ((own_word q0 q1 q2 ((p4 &&& (2147483647 : Int32)) % (192 : Int32))) &&& ((1 : Int64) <<< (((p4 &&& (2147483647 : Int32)) % (192 : Int32)) &&& 0x3f).toInt64)) = (0 : Int64))))] [(.int ((p4 &&& (2147483647 : Int32)) % (192 : Int32))), (.long q2), (.long q1), (.long q0), (.int (own_b (¬ ((own_word q0 q1 q2 ((p4 &&& (2147483647 : Int32)) % (192 : Int32))) &&& ((1 : Int64) <<< (((p4 &&& (2147483647 : Int32)) % (192 : Int32)) &&& 0x3f).toInt64)) = (0 : Int64))))])) rfl (by rw [hml]; rfl) (argsL := [(.long q0), (.long q1), (.long q2), (.int ((p4 &&& (2147483647 : Int32)) % (192 : Int32)))]) (rest := [(.int (own_b (¬ ((own_word q0 q1 q2 ((p4 &&& (2147483647 : Int32)) % (192 : Int32))) &&& ((1 : Int64) <<< (((p4 &&& (2147483647 : Int32)) % (192 : Int32)) &&& 0x3f).toInt64)) = (0 : Int64))))]) (lenOf pd_2 rfl) rfl (by show 2 * 0 + _ ≤ _; exact Nat.le_of_eq rfl) (hb hby at_94) (fun _ _ => ⟨rfl, e69, (by decide : 2 + 0 ≤ _), (by decide : 4 + 0 ≤ _)⟩)
  dsimp only [Pt.U, Pt.locs, Pt.cells, Pt.slots] at X73 l73 y73 z73 st73 hQ73
  subst l73 y73 z73
  obtain ⟨rfl, N73q, e73⟩ := hQ73
  have N73 := Fr.app N69 N73q
  have G74 : Go p e below A0 (T73.setTop (mkF m 97 #[.val (.long q0), .second, .val (.long q1), .second, .val (.long q2), .second, .val (.int p3), .val (.int p4), .val (.ref b34), .val (.ref b51), .val (.int ((p3 &&& (2147483647 : Int32)) % (192 : Int32))), .val (.int ((p4 &&& (2147483647 : Int32)) % (192 : Int32))), .val (.int (own_b (¬ ((own_word q0 q1 q2 ((p3 &&& (2147483647 : Int32)) % (192 : Int32))) &&& ((1 : Int64) <<< (((p3 &&& (2147483647 : Int32)) % (192 : Int32)) &&& 0x3f).toInt64)) = (0 : Int64)))), .val (.int (own_b (¬ ((own_word q0 q1 q2 ((p4 &&& (2147483647 : Int32)) % (192 : Int32))) &&& ((1 : Int64) <<< (((p4 &&& (2147483647 : Int32)) % (192 : Int32)) &&& 0x3f).toInt64)) = (0 : Int64))))] [(.int (own_b (((((own_word q0 q1 q2 ((p4 &&& (2147483647 : Int32)) % (192 : Int32))).toUInt64 >>> (own_pos ((p4 &&& (2147483647 : Int32)) % (192 : Int32)) &&& 0x3f).toInt64.toUInt64).toInt64) &&& (1 : Int64)) = (1 : Int64)))), (.int (own_b (¬ ((own_word q0 q1 q2 ((p4 &&& (2147483647 : Int32)) % (192 : Int32))) &&& ((1 : Int64) <<< (((p4 &&& (2147483647 : Int32)) % (192 : Int32)) &&& 0x3f).toInt64)) = (0 : Int64))))])) := fun tq kq => G72 tq (st73 _ kq)
  have hf75 : (own_b (¬ ((own_word q0 q1 q2 ((p4 &&& (2147483647 : Int32)) % (192 : Int32))) &&& ((1 : Int64) <<< (((p4 &&& (2147483647 : Int32)) % (192 : Int32)) &&& 0x3f).toInt64)) = (0 : Int64))) = (own_b (((((own_word q0 q1 q2 ((p4 &&& (2147483647 : Int32)) % (192 : Int32))).toUInt64 >>> (own_pos ((p4 &&& (2147483647 : Int32)) % (192 : Int32)) &&& 0x3f).toInt64.toUInt64).toInt64) &&& (1 : Int64)) = (1 : Int64))) := own_beq (own_bits _ _ _ (own_posm (own_in p4)))
  have G76 : Go p e below A0 (T73.setTop (mkF m 105 #[.val (.long q0), .second, .val (.long q1), .second, .val (.long q2), .second, .val (.int p3), .val (.int p4), .val (.ref b34), .val (.ref b51), .val (.int ((p3 &&& (2147483647 : Int32)) % (192 : Int32))), .val (.int ((p4 &&& (2147483647 : Int32)) % (192 : Int32))), .val (.int (own_b (¬ ((own_word q0 q1 q2 ((p3 &&& (2147483647 : Int32)) % (192 : Int32))) &&& ((1 : Int64) <<< (((p3 &&& (2147483647 : Int32)) % (192 : Int32)) &&& 0x3f).toInt64)) = (0 : Int64)))), .val (.int (own_b (¬ ((own_word q0 q1 q2 ((p4 &&& (2147483647 : Int32)) % (192 : Int32))) &&& ((1 : Int64) <<< (((p4 &&& (2147483647 : Int32)) % (192 : Int32)) &&& 0x3f).toInt64)) = (0 : Int64))))] [(.int (1 : Int32))])) := fun tq kq => G74 tq (by
    refine XS.icmpNo X73.here hx rfl (hb hby at_97) rfl (teq hf75).2 ?_
    show Steps p.tables e below (T73.setTop (mkF m 100 #[.val (.long q0), .second, .val (.long q1), .second, .val (.long q2), .second, .val (.int p3), .val (.int p4), .val (.ref b34), .val (.ref b51), .val (.int ((p3 &&& (2147483647 : Int32)) % (192 : Int32))), .val (.int ((p4 &&& (2147483647 : Int32)) % (192 : Int32))), .val (.int (own_b (¬ ((own_word q0 q1 q2 ((p3 &&& (2147483647 : Int32)) % (192 : Int32))) &&& ((1 : Int64) <<< (((p3 &&& (2147483647 : Int32)) % (192 : Int32)) &&& 0x3f).toInt64)) = (0 : Int64)))), .val (.int (own_b (¬ ((own_word q0 q1 q2 ((p4 &&& (2147483647 : Int32)) % (192 : Int32))) &&& ((1 : Int64) <<< (((p4 &&& (2147483647 : Int32)) % (192 : Int32)) &&& 0x3f).toInt64)) = (0 : Int64))))] [])) _
    refine XS.iconst X73.here hx rfl (hb hby at_100) ?_
    show Steps p.tables e below (T73.setTop (mkF m 101 #[.val (.long q0), .second, .val (.long q1), .second, .val (.long q2), .second, .val (.int p3), .val (.int p4), .val (.ref b34), .val (.ref b51), .val (.int ((p3 &&& (2147483647 : Int32)) % (192 : Int32))), .val (.int ((p4 &&& (2147483647 : Int32)) % (192 : Int32))), .val (.int (own_b (¬ ((own_word q0 q1 q2 ((p3 &&& (2147483647 : Int32)) % (192 : Int32))) &&& ((1 : Int64) <<< (((p3 &&& (2147483647 : Int32)) % (192 : Int32)) &&& 0x3f).toInt64)) = (0 : Int64)))), .val (.int (own_b (¬ ((own_word q0 q1 q2 ((p4 &&& (2147483647 : Int32)) % (192 : Int32))) &&& ((1 : Int64) <<< (((p4 &&& (2147483647 : Int32)) % (192 : Int32)) &&& 0x3f).toInt64)) = (0 : Int64))))] [(.int (1 : Int32))])) _
    refine XS.goto X73.here hx rfl (pc0 := 101) (pc' := 105) rfl (hb hby at_101) (by decide) (by decide) ?_
    show Steps p.tables e below (T73.setTop (mkF m 105 #[.val (.long q0), .second, .val (.long q1), .second, .val (.long q2), .second, .val (.int p3), .val (.int p4), .val (.ref b34), .val (.ref b51), .val (.int ((p3 &&& (2147483647 : Int32)) % (192 : Int32))), .val (.int ((p4 &&& (2147483647 : Int32)) % (192 : Int32))), .val (.int (own_b (¬ ((own_word q0 q1 q2 ((p3 &&& (2147483647 : Int32)) % (192 : Int32))) &&& ((1 : Int64) <<< (((p3 &&& (2147483647 : Int32)) % (192 : Int32)) &&& 0x3f).toInt64)) = (0 : Int64)))), .val (.int (own_b (¬ ((own_word q0 q1 q2 ((p4 &&& (2147483647 : Int32)) % (192 : Int32))) &&& ((1 : Int64) <<< (((p4 &&& (2147483647 : Int32)) % (192 : Int32)) &&& 0x3f).toInt64)) = (0 : Int64))))] [(.int (1 : Int32))])) _
    exact kq)
  obtain ⟨fs, hr, hrun, hended, hW, hsame⟩ := X73.leave (v := some (.int (nar .boolean (1 : Int32)))) (fun h => by rw [Bd.returns] at h; cases h)
  refine ⟨_, _, (by rw [← hA0]; exact G76 _ (retN X73 hx (t := .boolean) Bd.returns (by simp) (hb hby at_105) hr)), hrun, hended, _, _, rfl, ?_, ⟨_, rfl⟩, hW, hsame.mono (by decide) (by decide)⟩
  exact ⟨rfl, N73⟩
set_option maxRecDepth 65536 in
set_option maxHeartbeats 40000000 in
theorem comes_1 {Post : Tables → Env → Array Value → State → Outcome → State → Prop} (hpost : ∀ tb e args s v u, (limb_1_1.after args s (.returned v) u = true ∧ limb_1_2.after args s (.returned v) u = true ∧ True) → FrameEnd s (.returned v) u (Jvm.fieldLocs frame_1_writes args s ++ Jvm.arrayLocs frame_1_arrays args s ++ Jvm.staticLocs frame_1_statics s) 16 128 → Post tb e args s (.returned v) u) :
    ArmFor flags0 classFile x code maxLocals ret World_1 tables_1 room_1 Calls_1 rest_1 Pre_1 Post := by
  intro l hfl _ _ p e ha hc hk s m args below hf hA hF happ hP
  obtain ⟨hcalls, hrest, hpre⟩ := hP
  obtain ⟨-, -, -, hnamed, -, -, -, hat⟩ := (Spec.applies_iff hf).mp happ
  obtain ⟨hg, hn⟩ := and_e (Cond.before_iff.mp (show (Jvm.Cond.and given_1 narrow_1).before args s = true from hpre))
  obtain ⟨g1, g2⟩ := and_e hg
  obtain ⟨g3, g4⟩ := and_e g2
  obtain ⟨g5, g6⟩ := and_e g4
  obtain ⟨g7, g8⟩ := and_e g6
  obtain ⟨g9, g10⟩ := and_e g8
  obtain ⟨w0, w1, w2, w3, w4, rfl⟩ : ∃ w0 w1 w2 w3 w4 : Value, args = #[w0, w1, w2, w3, w4] := by
    have hs : args.size = 5 := by simpa [Cond.value, given_1] using g1
    obtain ⟨L⟩ := args
    match L, hs with
    | [w0, w1, w2, w3, w4], _ => exact ⟨w0, w1, w2, w3, w4, rfl⟩
  have hw := fun d (hd : d ∈ tables_1) => atoms_spec (ws := Jvm.Cond.code x code maxLocals ret :: tables_1) hat d (List.mem_cons_of_mem _ hd)
  have hfit : Fit s := fun {y c} hc i hi => by
    obtain ⟨ha, rfl⟩ := Array.getElem?_eq_some_iff.mp hc
    have q := List.all_eq_true.mp ((Array.all_eq_true_iff_forall_mem.mp hF) _ (Array.getElem_mem ha)) i (List.mem_range.mpr hi)
    simpa [Array.getElem?_eq_getElem hi] using q
  obtain ⟨i0, ei0⟩ := isL_v g3
  obtain rfl : w0 = (.long i0) := Option.some.inj ei0
  obtain ⟨i1, ei1⟩ := isL_v g5
  obtain rfl : w1 = (.long i1) := Option.some.inj ei1
  obtain ⟨i2, ei2⟩ := isL_v g7
  obtain rfl : w2 = (.long i2) := Option.some.inj ei2
  obtain ⟨i3, ei3⟩ := is_v g9
  obtain rfl : w3 = (.int i3) := Option.some.inj ei3
  obtain ⟨i4, ei4⟩ := is_v g10
  obtain rfl : w4 = (.int i4) := Option.some.inj ei4
  obtain ⟨n, o, h1, h2, h3, _, L, rfl, ⟨rfl, N⟩, hq⟩ := rm0 l s _ hw tables_1 i0 i1 i2 i3 i4  s.heap s.heap.size (Nat.le_refl _)  p e ha hc hk s m _ below hf ((Spec.applies_iff_loose hf).mp happ).1 ⟨rfl, State.Warmed39.refl s, rfl⟩ trivial
  refine ⟨n, _, h1, h2, h3, hpost _ _ _ _ _ _ ⟨Cond.after_iff.mpr rfl, Cond.after_iff.mpr (eq_i res_at (Term.int_eval (1)) rfl), trivial⟩ ⟨hq.1, hq.2.1, (hq.2.2.sift fun y hy => Or.inr (N y hy)).mono (by decide) (by decide)⟩⟩
theorem main_1_1 : Claimed_1_1 := comes_1 fun _ _ _ _ _ _ h hF => ⟨h.1, hF⟩
theorem main_1_2 : Claimed_1_2 := comes_1 fun _ _ _ _ _ _ h hF => ⟨h.2.1, hF⟩
end Jvm.Pilot.@@N@@
namespace Jvm.Pilot.@@N@@
open Jvm Jvm.ClassFile Sem Op Lib Jvm.Free Jvm.Stand Jvm.Pilot.@@N@@.Jvm.D
/-! MADE BY PROGRAM (witnessworld.py) out of the Statement's table words and the real class files: 11 classes; the members and pool entries that the words name. The judged class is class 1, her method 1. -/
namespace start1
open Jvm.ClassFile
def u (s : String) : CpInfo := .utf8 (stringToUtf16 s)
/-- a pool by its gaps: so many unusable entries, then the entry; so many at the end -/
def gap : Nat → List CpInfo → List CpInfo
  | 0, r => r
  | n + 1, r => .unusable :: gap n r
def poolList (es : List (Nat × CpInfo)) (last : Nat) : List CpInfo := es.foldr (fun e r => gap e.1 (e.2 :: r)) (gap last [])
def pool (es : List (Nat × CpInfo)) (last : Nat) : Array CpInfo := ⟨poolList es last⟩
def fileOf (pool : Array CpInfo) (this : Nat) (attrs : Array Attribute := #[]) (ms : Array MethodInfo := #[]) (fl : Nat := 33) (sup : Nat := 0) (ifs : Array Nat := #[]) (fds : Array FieldInfo := #[]) : ClassFile where
  minorVersion := 0
  majorVersion := 65
  constantPool := pool
  accessFlags := fl
  thisClass := this
  superClass := sup
  interfaces := ifs
  fields := fds
  methods := ms
  attributes := attrs
def plain (name : String) (sup : Option ClassId) : Class where
  name := name
  kind := .ordinary
  loader := none
  accessFlags := 33
  super := sup
  interfaces := #[]
  cf := none
  fields := #[]
  methods := #[]
  instanceTypes := #[]
  staticTypes := #[]
  resolved := #[]
  callSites := []
  init := .initialized
  statics := none
  mirror := none

def pool0 : Array CpInfo := pool [(5, u "<init>"), (0, u "()V"), (1, .class_ 10), (1, u "java/lang/Object")] 113

def k0c0 : Code := { maxStack := 0, maxLocals := 1, code := object_method_1_code, exceptionTable := #[], attributes := #[] }
def k0m0 : Method := { name := "<init>", desc := "()V", sig := { parameters := [], returnType := none }, accessFlags := 1, code := some k0c0 }
/-- java/lang/Object -/
def k0 : Class := { plain "java/lang/Object" none with
  accessFlags := 33
  interfaces := #[]
  cf := some (fileOf pool0 8 #[] #[{ accessFlags := 1, nameIndex := 5, descriptorIndex := 6, attributes := #[] }] 33 0 #[] #[])
  fields := #[]
  methods := #[k0m0]
  instanceTypes := #[]
  staticTypes := #[]
  resolved := Array.replicate 124 none
  statics := none }

def pool1 : Array CpInfo := pool [(2, .class_ 4), (1, u "java/lang/Object"), (0, u "<init>"), (0, u "()V"), (0, .class_ 8), (0, u "com/example/ludarc/ludarc/network/State"), (0, .methodref 7 10), (0, .nameAndType 5 11), (0, u "([J)V"), (0, .integer 2147483647), (0, .methodref 7 14), (0, .nameAndType 15 16), (0, u "holds"), (0, u "(I)Z"), (0, .methodref 18 19), (0, .class_ 20), (0, .nameAndType 21 22), (0, u "com/example/ludarc/ludarc/network/StateHoldsPinLaw"), (0, u "expected"), (0, u "(JJJI)Z"), (2, u "law"), (0, u "(JJJII)Z")] 5

def k1m0 : Method := { name := "<init>", desc := "()V", sig := { parameters := [], returnType := none }, accessFlags := 1, code := none }
def k1c1 : Code := { maxStack := 8, maxLocals := 14, code := code, exceptionTable := #[], attributes := #[] }
def k1m1 : Method := { name := "law", desc := "(JJJII)Z", sig := { parameters := [.long, .long, .long, .int, .int], returnType := some .boolean }, accessFlags := 9, code := some k1c1 }
def k1c2 : Code := { maxStack := 4, maxLocals := 10, code := method_3_code, exceptionTable := #[], attributes := #[] }
def k1m2 : Method := { name := "expected", desc := "(JJJI)Z", sig := { parameters := [.long, .long, .long, .int], returnType := some .boolean }, accessFlags := 10, code := some k1c2 }
/-- com/example/ludarc/ludarc/network/StateHoldsPinLaw -/
def k1 : Class := { plain "com/example/ludarc/ludarc/network/StateHoldsPinLaw" (some 0) with
  accessFlags := 49
  interfaces := #[]
  cf := some (fileOf pool1 18 #[] #[{ accessFlags := 1, nameIndex := 5, descriptorIndex := 6, attributes := #[] }, { accessFlags := 9, nameIndex := 25, descriptorIndex := 26, attributes := #[] }, { accessFlags := 10, nameIndex := 21, descriptorIndex := 22, attributes := #[] }] 49 2 #[] #[])
  fields := #[]
  methods := #[k1m0, k1m1, k1m2]
  instanceTypes := #[]
  staticTypes := #[]
  resolved := Array.replicate 32 none
  statics := none }

def pool2 : Array CpInfo := pool [(1, .methodref 2 3), (0, .class_ 4), (0, .nameAndType 5 6), (0, u "java/lang/Object"), (0, u "<init>"), (0, u "()V"), (0, .fieldref 8 9), (0, .class_ 10), (0, .nameAndType 11 12), (0, u "com/example/ludarc/ludarc/network/State"), (0, u "bits"), (0, u "[J"), (10, u "([J)V"), (2, u "holds"), (0, u "(I)Z")] 5

def k2c0 : Code := { maxStack := 2, maxLocals := 2, code := prog_47_method_1_code, exceptionTable := #[], attributes := #[] }
def k2m0 : Method := { name := "<init>", desc := "([J)V", sig := { parameters := [(.array .long)], returnType := none }, accessFlags := 0, code := some k2c0 }
def k2c1 : Code := { maxStack := 5, maxLocals := 2, code := prog_47_method_2_code, exceptionTable := #[], attributes := #[] }
def k2m1 : Method := { name := "holds", desc := "(I)Z", sig := { parameters := [.int], returnType := some .boolean }, accessFlags := 1, code := some k2c1 }
/-- com/example/ludarc/ludarc/network/State -/
def k2 : Class := { plain "com/example/ludarc/ludarc/network/State" (some 0) with
  accessFlags := 49
  interfaces := #[]
  cf := some (fileOf pool2 8 #[] #[{ accessFlags := 0, nameIndex := 5, descriptorIndex := 23, attributes := #[] }, { accessFlags := 1, nameIndex := 26, descriptorIndex := 27, attributes := #[] }] 49 2 #[] #[{ accessFlags := 18, nameIndex := 11, descriptorIndex := 12, attributes := #[] }])
  fields := #[{ name := "bits", type := (.array .long), accessFlags := 18, slot := 0, constantValue := 0 }]
  methods := #[k2m0, k2m1]
  instanceTypes := #[(.array .long)]
  staticTypes := #[]
  resolved := Array.replicate 33 none
  statics := none }

def pool3 : Array CpInfo := pool [(1, u "java/lang/Cloneable"), (0, .class_ 1), (0, u "java/lang/Object"), (0, .class_ 3)] 3

/-- java/lang/Cloneable -/
def k3 : Class := { plain "java/lang/Cloneable" (some 0) with
  accessFlags := 1537
  interfaces := #[]
  cf := some (fileOf pool3 2 #[] #[] 1537 4 #[] #[])
  fields := #[]
  methods := #[]
  instanceTypes := #[]
  staticTypes := #[]
  resolved := Array.replicate 8 none
  statics := none }

def pool4 : Array CpInfo := pool [(1, u "java/io/Serializable"), (0, .class_ 1), (0, u "java/lang/Object"), (0, .class_ 3)] 3

/-- java/io/Serializable -/
def k4 : Class := { plain "java/io/Serializable" (some 0) with
  accessFlags := 1537
  interfaces := #[]
  cf := some (fileOf pool4 2 #[] #[] 1537 4 #[] #[])
  fields := #[]
  methods := #[]
  instanceTypes := #[]
  staticTypes := #[]
  resolved := Array.replicate 8 none
  statics := none }

/-- the primitive byte -/
def k5 : Class := { plain "byte" none with kind := .primitive 'B', accessFlags := 0x411 }
/-- [B -/
def k6 : Class := { plain "[B" (some 0) with kind := .array 5 .byte, interfaces := #[3, 4], accessFlags := 1041 }

/-- the primitive int -/
def k7 : Class := { plain "int" none with kind := .primitive 'I', accessFlags := 0x411 }
/-- [I -/
def k8 : Class := { plain "[I" (some 0) with kind := .array 7 .int, interfaces := #[3, 4], accessFlags := 1041 }

/-- the primitive long -/
def k9 : Class := { plain "long" none with kind := .primitive 'J', accessFlags := 0x411 }
/-- [J -/
def k10 : Class := { plain "[J" (some 0) with kind := .array 9 .long, interfaces := #[3, 4], accessFlags := 1041 }

def heap : Heap := #[]
def classes : Array Class := #[k0, k1, k2, k3, k4, k5, k6, k7, k8, k9, k10]
def interned : List (Array UInt16 × Addr) := []
def slotsUsed : Nat := 0
def theMethod : MethodId := ⟨1, 1⟩
def args0 : Array Value := #[.long 5, .long 6, .long 7, .int 1, .int 100]
def aboutOver (below : List Frame) : State where
  vm := { classes := classes, interned := interned.toArray }
  heap := heap
  slotsUsed := slotsUsed
  threads := #[{ frames := .invoking theMethod args0 :: below }]
def below0 : List Frame := [.native { method := ⟨0, 0⟩, args := #[] }]
def about1 : State := aboutOver below0
def p0 : Program := .bare "" "" ""
def e0 : Env := launch0.env 0 0 0
theorem w_frames : about1.frames = Frame.invoking theMethod args0 :: below0 := rfl
set_option maxRecDepth 65536 in
theorem w_args : argsFit about1.vm theMethod args0 = true := by decide +kernel
set_option maxRecDepth 65536 in
theorem w_heap : heapFits about1 = true := by decide +kernel
set_option maxRecDepth 65536 in
theorem w_runnable : about1.curStatus? = some .runnable := by decide +kernel
set_option maxRecDepth 65536 in
theorem w_alone : about1.alone = true := by decide +kernel
set_option maxRecDepth 65536 in
theorem w_named : about1.methodNamed? x = some theMethod := by decide +kernel
set_option maxRecDepth 65536 in
theorem w_hears : about1.hears theMethod below0 = true := by decide +kernel
set_option maxRecDepth 65536 in
theorem w_ripe : about1.ripe theMethod args0 below0 = true := by decide +kernel
theorem w_running : about1.status = .running := rfl
set_option maxRecDepth 65536 in
theorem w_room : about1.hasRoom e0.platform room_1 = true :=
  launch0.hasRoom_least _ room_1 (by decide +kernel) (by decide +kernel) (by decide +kernel) (by decide +kernel) (by decide +kernel) (by decide +kernel)
theorem allAtoms_all (ts : List Jvm.Cond) (a : Array Jvm.Value) (st : Jvm.State) : (allAtoms ts).before a st = ts.all (fun c => c.before a st) := by
  induction ts with
  | nil => rfl
  | cons c t ih =>
    show (Jvm.Cond.and c (allAtoms t)).before a st = _
    rw [Jvm.Cond.before_and, ih, List.all_cons]
def words1 : List Jvm.Cond := Jvm.Cond.code x code maxLocals ret :: tables_1
/-- a 'code' word, met by the world's own term for the bytes: nothing is compared byte by byte -/
theorem code_word {y : MethodName} {bytes : ByteArray} {mx : Nat} {rt : Option FieldType} {a : Array Value} {s : State} {m : MethodId} {meth : Method} {c : Code} (h1 : s.methodNamed? y = some m) (h2 : s.vm.method? m = some meth) (h3 : meth.code = some c) (h4 : c.code = bytes)
    (h5 : (c.maxLocals == mx && c.exceptionTable.isEmpty && decide (c.maxStack ≤ mostOperands) && decide (meth.sig.returnType = rt) && !meth.locks && decide (parseMethodDescriptor y.desc = some meth.sig)) = true) : (Jvm.Cond.code y bytes mx rt).before a s = true := by
  simp only [Bool.and_eq_true, beq_iff_eq, Bool.not_eq_true', decide_eq_true_eq] at h5
  obtain ⟨⟨⟨⟨⟨g1, g2⟩, g3⟩, g4⟩, g5⟩, g6⟩ := h5
  simp [Cond.before, Cond.holds, Cond.value, h1, h2, h3, h4, g1, g2, g3, g4, g5, g6]
def isCode : Jvm.Cond → Bool
  | .code _ _ _ _ => true
  | _ => false
theorem all_split {L : List Jvm.Cond} {P : Jvm.Cond → Bool} (h1 : L.all (fun c => isCode c || P c) = true) (h2 : ∀ c ∈ L.filter isCode, P c = true) : L.all P = true := by
  refine List.all_eq_true.mpr fun c hc => ?_
  have h := List.all_eq_true.mp h1 c hc
  rcases Bool.eq_false_or_eq_true (isCode c) with hi | hi
  · exact h2 c (List.mem_filter.mpr ⟨hc, hi⟩)
  · simpa [hi] using h
set_option maxRecDepth 65536 in
theorem w_c0 : (Jvm.Cond.code x code maxLocals ret).before args0 about1 = true := code_word (m := ⟨1, 1⟩) (meth := k1m1) (c := k1c1) (by decide +kernel) rfl rfl rfl (by decide +kernel)
set_option maxRecDepth 65536 in
theorem w_c1 : (Jvm.Cond.code ({ cls := "com/example/ludarc/ludarc/network/State", name := "<init>", desc := "([J)V" } : Jvm.MethodName) prog_47_method_1_code (2 : Nat) (Option.none : Option Jvm.ClassFile.FieldType)).before args0 about1 = true := code_word (m := ⟨2, 0⟩) (meth := k2m0) (c := k2c0) (by decide +kernel) rfl rfl rfl (by decide +kernel)
set_option maxRecDepth 65536 in
theorem w_c2 : (Jvm.Cond.code ({ cls := "java/lang/Object", name := "<init>", desc := "()V" } : Jvm.MethodName) object_method_1_code (1 : Nat) (Option.none : Option Jvm.ClassFile.FieldType)).before args0 about1 = true := code_word (m := ⟨0, 0⟩) (meth := k0m0) (c := k0c0) (by decide +kernel) rfl rfl rfl (by decide +kernel)
set_option maxRecDepth 65536 in
theorem w_c3 : (Jvm.Cond.code ({ cls := "com/example/ludarc/ludarc/network/State", name := "holds", desc := "(I)Z" } : Jvm.MethodName) prog_47_method_2_code (2 : Nat) (Option.some Jvm.ClassFile.FieldType.boolean)).before args0 about1 = true := code_word (m := ⟨2, 1⟩) (meth := k2m1) (c := k2c1) (by decide +kernel) rfl rfl rfl (by decide +kernel)
set_option maxRecDepth 65536 in
theorem w_c4 : (Jvm.Cond.code ({ cls := "com/example/ludarc/ludarc/network/StateHoldsPinLaw", name := "expected", desc := "(JJJI)Z" } : Jvm.MethodName) method_3_code (10 : Nat) (Option.some Jvm.ClassFile.FieldType.boolean)).before args0 about1 = true := code_word (m := ⟨1, 2⟩) (meth := k1m2) (c := k1c2) (by decide +kernel) rfl rfl rfl (by decide +kernel)
def codes1 : List Jvm.Cond := [Jvm.Cond.code x code maxLocals ret, Jvm.Cond.code ({ cls := "com/example/ludarc/ludarc/network/State", name := "<init>", desc := "([J)V" } : Jvm.MethodName) prog_47_method_1_code (2 : Nat) (Option.none : Option Jvm.ClassFile.FieldType), Jvm.Cond.code ({ cls := "java/lang/Object", name := "<init>", desc := "()V" } : Jvm.MethodName) object_method_1_code (1 : Nat) (Option.none : Option Jvm.ClassFile.FieldType), Jvm.Cond.code ({ cls := "com/example/ludarc/ludarc/network/State", name := "holds", desc := "(I)Z" } : Jvm.MethodName) prog_47_method_2_code (2 : Nat) (Option.some Jvm.ClassFile.FieldType.boolean), Jvm.Cond.code ({ cls := "com/example/ludarc/ludarc/network/StateHoldsPinLaw", name := "expected", desc := "(JJJI)Z" } : Jvm.MethodName) method_3_code (10 : Nat) (Option.some Jvm.ClassFile.FieldType.boolean)]
set_option maxRecDepth 65536 in
theorem codes_eq : words1.filter isCode = codes1 := rfl
theorem w_codes : ∀ c ∈ words1.filter isCode, c.before args0 about1 = true := by
  rw [codes_eq]
  intro c hc
  simp only [codes1, List.mem_cons, List.not_mem_nil, or_false] at hc
  rcases hc with rfl | rfl | rfl | rfl | rfl
  · exact w_c0
  · exact w_c1
  · exact w_c2
  · exact w_c3
  · exact w_c4
set_option maxRecDepth 65536 in
theorem w_t1 : words1.all (fun c => isCode c || c.before args0 about1) = true := by decide +kernel
theorem w_tables : (allAtoms (Jvm.Cond.code x code maxLocals ret :: tables_1)).before args0 about1 = true := by
  rw [allAtoms_all]
  show words1.all (fun c => c.before args0 about1) = true
  refine all_split ?_ w_codes
  rw [w_t1]
set_option maxRecDepth 65536 in
theorem w_case : (Jvm.Cond.and given_1 narrow_1).before args0 about1 = true := by decide +kernel
theorem w_applies : (headSpec (Jvm.Cond.code x code maxLocals ret :: tables_1) room_1).applies x e0.platform about1 = true :=
  (Spec.applies_iff w_frames).mpr ⟨w_running, w_runnable, w_alone, w_named, w_hears, w_ripe, w_room, w_tables⟩
theorem atStart : AtStart classFile x code maxLocals ret World_1 tables_1 room_1 Calls_1 rest_1 Pre_1 launch0 p0 e0 about1 theMethod args0 below0 :=
  ⟨lists_1, trivial, launch0.admits_env _ _ _, launch0.least_env, fairChoices_fair.cas, fairChoices_fair.clock, w_frames, w_args, w_heap, w_applies, trivial, trivial, w_case⟩
end start1
theorem witness_1 : WitnessClaimed_1 := ⟨start1.p0, start1.e0, start1.about1, start1.theMethod, start1.args0, start1.below0, start1.atStart⟩
end Jvm.Pilot.@@N@@
