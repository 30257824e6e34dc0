import JvmDerived
import JvmDerived.Pilot.@@N@@Statement
import JvmDerived.Pilot.@@N@@Code
set_option linter.unusedVariables false
set_option linter.unusedSimpArgs false

namespace Jvm.Pilot.@@N@@
open Jvm Jvm.ClassFile Sem Op Lib Jvm.Free Jvm.Stand Jvm.LawKit Jvm.RoadKit Bundle Jvm.Pilot.@@N@@.Jvm.D

theorem own_b1 {P : Prop} [Decidable P] (h : P) : (1 : Int32) = if P then 1 else 0 := (if_pos h).symm
theorem own_b0 {P : Prop} [Decidable P] (h : ¬ P) : (0 : Int32) = if P then 1 else 0 := (if_neg h).symm
abbrev own_P (c : Int32) : Prop := (¬ c < (97 : Int32) ∧ ¬ (122 : Int32) < c) ∨ (¬ c < (65 : Int32) ∧ ¬ (90 : Int32) < c) ∨ (¬ c < (48 : Int32) ∧ ¬ (57 : Int32) < c) ∨ c = (95 : Int32) ∨ c = (45 : Int32)
abbrev own_L (c : Int32) : Prop := ¬ (c ||| (32 : Int32)) < (97 : Int32) ∧ ¬ (122 : Int32) < (c ||| (32 : Int32))
abbrev own_D (c : Int32) : Prop := ¬ (c - (48 : Int32)) < (0 : Int32) ∧ (c - (48 : Int32)) < (10 : Int32)
abbrev own_E (c : Int32) : Prop := own_L c ∨ own_D c ∨ c = (95 : Int32) ∨ c = (45 : Int32)
/-- the bit 5 of a word, as arithmetic -/
theorem own_or32 (x : BitVec 32) : (x.toNat / 32 % 2 = 1 → x ||| 32#32 = x) ∧ (x.toNat / 32 % 2 = 0 → x ||| 32#32 = x + 32#32) := by
  have hb : x.getLsbD 5 = decide (x.toNat / 32 % 2 = 1) := by
    rw [BitVec.getLsbD, Nat.testBit_eq_decide_div_mod_eq]
  refine ⟨fun h => ?_, fun h => ?_⟩
  · apply BitVec.eq_of_getLsbD_eq
    intro i hi
    rw [BitVec.getLsbD_or]
    by_cases q : i = 5
    · subst q; rw [hb, h]; rfl
    · have : (32#32).getLsbD i = false := by
        rw [show (32#32) = BitVec.twoPow 32 5 from rfl, BitVec.getLsbD_twoPow]; simp; omega
      rw [this]; simp
  · refine (BitVec.add_eq_or_of_and_eq_zero _ _ ?_).symm
    apply BitVec.eq_of_getLsbD_eq
    intro i hi
    rw [BitVec.getLsbD_and]
    by_cases q : i = 5
    · subst q; rw [hb, h]; rfl
    · have : (32#32).getLsbD i = false := by
        rw [show (32#32) = BitVec.twoPow 32 5 from rfl, BitVec.getLsbD_twoPow]; simp; omega
      rw [this]; simp
theorem own_toInt (c : Int32) : c.toInt = if 2 * c.toBitVec.toNat < 4294967296 then (c.toBitVec.toNat : Int) else (c.toBitVec.toNat : Int) - 4294967296 := by
  show c.toBitVec.toInt = _
  rw [BitVec.toInt_eq_toNat_cond]; rfl
theorem own_same (c : Int32) : own_P c ↔ own_E c := by
  have hc := own_toInt c
  have hlt := c.toBitVec.isLt
  have ho := own_toInt (c ||| 32)
  have hd := own_toInt (c - 48)
  have e1 : (c - 48).toBitVec.toNat = (4294967296 - 48 + c.toBitVec.toNat) % 4294967296 := by
    show (c.toBitVec - 48#32).toNat = _
    rw [BitVec.toNat_sub]; rfl
  have e2 : (c.toBitVec.toNat / 32 % 2 = 1 → (c ||| 32).toBitVec.toNat = c.toBitVec.toNat) ∧ (c.toBitVec.toNat / 32 % 2 = 0 → (c ||| 32).toBitVec.toNat = (c.toBitVec.toNat + 32) % 4294967296) := by
    refine ⟨fun h => ?_, fun h => ?_⟩
    · show (c.toBitVec ||| 32#32).toNat = _
      rw [(own_or32 c.toBitVec).1 h]
    · show (c.toBitVec ||| 32#32).toNat = _
      rw [(own_or32 c.toBitVec).2 h, BitVec.toNat_add]; rfl
  simp only [own_P, own_E, own_L, own_D, Int32.lt_iff_toInt_lt, ← Int32.toInt_inj]
  have k97 : (97 : Int32).toInt = 97 := rfl
  have k122 : (122 : Int32).toInt = 122 := rfl
  have k65 : (65 : Int32).toInt = 65 := rfl
  have k90 : (90 : Int32).toInt = 90 := rfl
  have k48 : (48 : Int32).toInt = 48 := rfl
  have k57 : (57 : Int32).toInt = 57 := rfl
  have k95 : (95 : Int32).toInt = 95 := rfl
  have k45 : (45 : Int32).toInt = 45 := rfl
  have k0 : (0 : Int32).toInt = 0 := rfl
  have k10 : (10 : Int32).toInt = 10 := rfl
  rw [k97, k122, k65, k90, k48, k57, k95, k45, k0, k10]
  generalize (c ||| 32).toInt = o at *
  generalize (c - 48).toInt = d at *
  generalize (c ||| 32).toBitVec.toNat = on at *
  generalize (c - 48).toBitVec.toNat = dn at *
  generalize c.toInt = ci at *
  generalize c.toBitVec.toNat = cn at *
  rcases Nat.mod_two_eq_zero_or_one (cn / 32) with h | h
  · have := e2.2 h
    split at hc <;> split at ho <;> split at hd <;> omega
  · have := e2.1 h
    split at hc <;> split at ho <;> split at hd <;> omega

theorem dA_0 : decode prog_2_method_4_code 0 = .ok (.iload_n 0, 1) := by decide +kernel
theorem dA_1 : decode prog_2_method_4_code 1 = .ok (.bipush 97, 2) := by decide +kernel
theorem dA_3 : decode prog_2_method_4_code 3 = .ok (.if_icmp .lt 9, 3) := by decide +kernel
theorem dA_6 : decode prog_2_method_4_code 6 = .ok (.iload_n 0, 1) := by decide +kernel
theorem dA_7 : decode prog_2_method_4_code 7 = .ok (.bipush 122, 2) := by decide +kernel
theorem dA_9 : decode prog_2_method_4_code 9 = .ok (.if_icmp .le 39, 3) := by decide +kernel
theorem dA_12 : decode prog_2_method_4_code 12 = .ok (.iload_n 0, 1) := by decide +kernel
theorem dA_13 : decode prog_2_method_4_code 13 = .ok (.bipush 65, 2) := by decide +kernel
theorem dA_15 : decode prog_2_method_4_code 15 = .ok (.if_icmp .lt 9, 3) := by decide +kernel
theorem dA_18 : decode prog_2_method_4_code 18 = .ok (.iload_n 0, 1) := by decide +kernel
theorem dA_19 : decode prog_2_method_4_code 19 = .ok (.bipush 90, 2) := by decide +kernel
theorem dA_21 : decode prog_2_method_4_code 21 = .ok (.if_icmp .le 27, 3) := by decide +kernel
theorem dA_24 : decode prog_2_method_4_code 24 = .ok (.iload_n 0, 1) := by decide +kernel
theorem dA_25 : decode prog_2_method_4_code 25 = .ok (.bipush 48, 2) := by decide +kernel
theorem dA_27 : decode prog_2_method_4_code 27 = .ok (.if_icmp .lt 9, 3) := by decide +kernel
theorem dA_30 : decode prog_2_method_4_code 30 = .ok (.iload_n 0, 1) := by decide +kernel
theorem dA_31 : decode prog_2_method_4_code 31 = .ok (.bipush 57, 2) := by decide +kernel
theorem dA_33 : decode prog_2_method_4_code 33 = .ok (.if_icmp .le 15, 3) := by decide +kernel
theorem dA_36 : decode prog_2_method_4_code 36 = .ok (.iload_n 0, 1) := by decide +kernel
theorem dA_37 : decode prog_2_method_4_code 37 = .ok (.bipush 95, 2) := by decide +kernel
theorem dA_39 : decode prog_2_method_4_code 39 = .ok (.if_icmp .eq 9, 3) := by decide +kernel
theorem dA_42 : decode prog_2_method_4_code 42 = .ok (.iload_n 0, 1) := by decide +kernel
theorem dA_43 : decode prog_2_method_4_code 43 = .ok (.bipush 45, 2) := by decide +kernel
theorem dA_45 : decode prog_2_method_4_code 45 = .ok (.if_icmp .ne 7, 3) := by decide +kernel
theorem dA_48 : decode prog_2_method_4_code 48 = .ok (.iconst 1, 1) := by decide +kernel
theorem dA_49 : decode prog_2_method_4_code 49 = .ok (.goto 4, 3) := by decide +kernel
theorem dA_52 : decode prog_2_method_4_code 52 = .ok (.iconst 0, 1) := by decide +kernel
theorem dA_53 : decode prog_2_method_4_code 53 = .ok (.ireturn, 1) := by decide +kernel
theorem pnA : plainName "com/example/convey/convey/AccountAddress" = true := by first | (simp [plainName, overriddenIn]; done) | decide +kernel
theorem efA (m : MethodId) (p1 : Int32) : entryFrame m #[(.int p1)] 1 = mkF m 0 #[.val (.int p1)] [] := by first | (simp [entryFrame, mkF, argsToLocals, Value.category]; done) | rfl
def QA (Z : State) (p1 : Int32) (h0 : Heap) (n0 : Nat) (v : Option Value) (h : Heap) (L : List Loc) : Prop := v = some (.int (if own_P p1 then 1 else 0)) ∧ Fr n0 L ∧ h = h0
set_option maxRecDepth 65536 in
set_option maxHeartbeats 40000000 in
theorem rmA (l : Launch) (Z : State) (a0 : Array Value) (hw : ∀ d ∈ tables_1, d.before a0 Z = true) (ws : List Jvm.Cond) (p1 : Int32) (h0 : Heap) (n0 : Nat) (Z0 : n0 ≤ h0.size) :
    MetFree l (⟨"com/example/convey/convey/AccountAddress", "isSegmentCharacter", "(C)Z"⟩ : MethodName) (head1 (Jvm.Cond.code (⟨"com/example/convey/convey/AccountAddress", "isSegmentCharacter", "(C)Z"⟩ : MethodName) prog_2_method_4_code 1 (some .boolean) :: ws) ({ frames := 0, cells := 0, slots := 0, locals := 0 } : Room)) (fun a U => a = #[(.int p1)] ∧ Z.Warmed39 U.vm ∧ U.heap = h0) (fun _ _ _ _ _ => True) (fun _ U o U' => ∃ v L, o = .returned v ∧ QA Z p1 h0 n0 v U'.heap L ∧ FrameEnd U o U' L ({ frames := 0, cells := 0, slots := 0, locals := 0 } : Room).cells ({ frames := 0, cells := 0, slots := 0, locals := 0 } : Room).slots) := by
  refine MetFree.of_bodySF (plainFor_of_name pnA) hisR ?_
  intro p e s m args below meth c s₁ Bd hml0 hP hK
  obtain ⟨rfl, hZ, hh⟩ := hP
  have hx := Bd.exec
  have hby := Bd.bytes
  have hml : c.maxLocals = 1 := hml0
  have hown : s.vm.findClass "com/example/convey/convey/AccountAddress" = some m.cls := findClass_of_methodNamed Bd.named
  have hnm := (name_of_methodNamed Bd.named Bd.method).1
  have X0 : Stand p l e ({ frames := 0, cells := 0, slots := 0, locals := 0 } : Room) s m #[(.int p1)] below meth c s₁ [] 0 0 := Stand.of_body Bd
  have e0 : s₁.heap = h0 := by rw [← hh, Bd.state]; rfl
  have N0 := Fr.nil n0
  have pre0 : ∀ t, Steps p.tables e below (s₁.setTop (mkF m 0 #[.val (.int p1)] [])) t → Steps p.tables e below (s₁.setTop (entryFrame m #[(.int p1)] 1)) t := fun t k => castTop (efA m p1) k
  have pre1 : ∀ t, Steps p.tables e below (s₁.setTop (mkF m 3 #[.val (.int p1)] [(.int (97 : Int32)), (.int p1)])) t → Steps p.tables e below (s₁.setTop (entryFrame m #[(.int p1)] 1)) t := fun t_ k_ => pre0 t_ (by
      refine XS.iloadN X0.here hx rfl (hb hby dA_0) rfl ?_
      show Steps p.tables e below (s₁.setTop (mkF m 1 #[.val (.int p1)] [(.int p1)])) _
      refine XS.bipush X0.here hx rfl (hb hby dA_1) ?_
      show Steps p.tables e below (s₁.setTop (mkF m 3 #[.val (.int p1)] [(.int (97 : Int32)), (.int p1)])) _
      exact k_)
  by_cases c3_2 : p1 < (97 : Int32)
  · have pre3 : ∀ t, Steps p.tables e below (s₁.setTop (mkF m 15 #[.val (.int p1)] [(.int (65 : Int32)), (.int p1)])) t → Steps p.tables e below (s₁.setTop (entryFrame m #[(.int p1)] 1)) t := fun t_ k_ => pre1 t_ (by
        refine XS.icmpYes X0.here hx rfl (pc0 := 3) (pc' := 12) rfl (hb hby dA_3) rfl (tlt c3_2).1 (by decide) (by decide) ?_
        show Steps p.tables e below (s₁.setTop (mkF m 12 #[.val (.int p1)] [])) _
        refine XS.iloadN X0.here hx rfl (hb hby dA_12) rfl ?_
        show Steps p.tables e below (s₁.setTop (mkF m 13 #[.val (.int p1)] [(.int p1)])) _
        refine XS.bipush X0.here hx rfl (hb hby dA_13) ?_
        show Steps p.tables e below (s₁.setTop (mkF m 15 #[.val (.int p1)] [(.int (65 : Int32)), (.int p1)])) _
        exact k_)
    by_cases c15_4 : p1 < (65 : Int32)
    · have pre5 : ∀ t, Steps p.tables e below (s₁.setTop (mkF m 27 #[.val (.int p1)] [(.int (48 : Int32)), (.int p1)])) t → Steps p.tables e below (s₁.setTop (entryFrame m #[(.int p1)] 1)) t := fun t_ k_ => pre3 t_ (by
          refine XS.icmpYes X0.here hx rfl (pc0 := 15) (pc' := 24) rfl (hb hby dA_15) rfl (tlt c15_4).1 (by decide) (by decide) ?_
          show Steps p.tables e below (s₁.setTop (mkF m 24 #[.val (.int p1)] [])) _
          refine XS.iloadN X0.here hx rfl (hb hby dA_24) rfl ?_
          show Steps p.tables e below (s₁.setTop (mkF m 25 #[.val (.int p1)] [(.int p1)])) _
          refine XS.bipush X0.here hx rfl (hb hby dA_25) ?_
          show Steps p.tables e below (s₁.setTop (mkF m 27 #[.val (.int p1)] [(.int (48 : Int32)), (.int p1)])) _
          exact k_)
      by_cases c27_6 : p1 < (48 : Int32)
      · have pre7 : ∀ t, Steps p.tables e below (s₁.setTop (mkF m 39 #[.val (.int p1)] [(.int (95 : Int32)), (.int p1)])) t → Steps p.tables e below (s₁.setTop (entryFrame m #[(.int p1)] 1)) t := fun t_ k_ => pre5 t_ (by
            refine XS.icmpYes X0.here hx rfl (pc0 := 27) (pc' := 36) rfl (hb hby dA_27) rfl (tlt c27_6).1 (by decide) (by decide) ?_
            show Steps p.tables e below (s₁.setTop (mkF m 36 #[.val (.int p1)] [])) _
            refine XS.iloadN X0.here hx rfl (hb hby dA_36) rfl ?_
            show Steps p.tables e below (s₁.setTop (mkF m 37 #[.val (.int p1)] [(.int p1)])) _
            refine XS.bipush X0.here hx rfl (hb hby dA_37) ?_
            show Steps p.tables e below (s₁.setTop (mkF m 39 #[.val (.int p1)] [(.int (95 : Int32)), (.int p1)])) _
            exact k_)
        by_cases c39_8 : p1 = (95 : Int32)
        · have pre9 : ∀ t, Steps p.tables e below (s₁.setTop (mkF m 53 #[.val (.int p1)] [(.int (1 : Int32))])) t → Steps p.tables e below (s₁.setTop (entryFrame m #[(.int p1)] 1)) t := fun t_ k_ => pre7 t_ (by
              refine XS.icmpYes X0.here hx rfl (pc0 := 39) (pc' := 48) rfl (hb hby dA_39) rfl (teq c39_8).1 (by decide) (by decide) ?_
              show Steps p.tables e below (s₁.setTop (mkF m 48 #[.val (.int p1)] [])) _
              refine XS.iconst X0.here hx rfl (hb hby dA_48) ?_
              show Steps p.tables e below (s₁.setTop (mkF m 49 #[.val (.int p1)] [(.int (1 : Int32))])) _
              refine XS.goto X0.here hx rfl (pc0 := 49) (pc' := 53) rfl (hb hby dA_49) (by decide) (by decide) ?_
              show Steps p.tables e below (s₁.setTop (mkF m 53 #[.val (.int p1)] [(.int (1 : Int32))])) _
              exact k_)
          obtain ⟨fs, hr, hrun, hended, hW, hsame⟩ := X0.leave (v := some (.int (1 : Int32))) (fun h => by rw [Bd.returns] at h; cases h)
          refine ⟨_, _, pre9 _ ?_, hrun, hended, _, _, rfl, ?_, ⟨_, rfl⟩, hW, hsame.mono (by decide) (by decide)⟩
          · exact retN X0 hx (t := .boolean) Bd.returns (by simp) (hb hby dA_53) hr
          · show QA Z p1 h0 n0 _ s₁.heap _
            rw [e0]
            exact ⟨congrArg (fun z => some (Value.int z)) (own_b1 (P := own_P p1) (by simp [own_P, c3_2, c15_4, c27_6, c39_8])), N0, rfl⟩
        · have pre10 : ∀ t, Steps p.tables e below (s₁.setTop (mkF m 45 #[.val (.int p1)] [(.int (45 : Int32)), (.int p1)])) t → Steps p.tables e below (s₁.setTop (entryFrame m #[(.int p1)] 1)) t := fun t_ k_ => pre7 t_ (by
              refine XS.icmpNo X0.here hx rfl (hb hby dA_39) rfl (feq c39_8).1 ?_
              show Steps p.tables e below (s₁.setTop (mkF m 42 #[.val (.int p1)] [])) _
              refine XS.iloadN X0.here hx rfl (hb hby dA_42) rfl ?_
              show Steps p.tables e below (s₁.setTop (mkF m 43 #[.val (.int p1)] [(.int p1)])) _
              refine XS.bipush X0.here hx rfl (hb hby dA_43) ?_
              show Steps p.tables e below (s₁.setTop (mkF m 45 #[.val (.int p1)] [(.int (45 : Int32)), (.int p1)])) _
              exact k_)
          by_cases c45_11 : p1 = (45 : Int32)
          · have pre12 : ∀ t, Steps p.tables e below (s₁.setTop (mkF m 53 #[.val (.int p1)] [(.int (1 : Int32))])) t → Steps p.tables e below (s₁.setTop (entryFrame m #[(.int p1)] 1)) t := fun t_ k_ => pre10 t_ (by
                refine XS.icmpNo X0.here hx rfl (hb hby dA_45) rfl (teq c45_11).2 ?_
                show Steps p.tables e below (s₁.setTop (mkF m 48 #[.val (.int p1)] [])) _
                refine XS.iconst X0.here hx rfl (hb hby dA_48) ?_
                show Steps p.tables e below (s₁.setTop (mkF m 49 #[.val (.int p1)] [(.int (1 : Int32))])) _
                refine XS.goto X0.here hx rfl (pc0 := 49) (pc' := 53) rfl (hb hby dA_49) (by decide) (by decide) ?_
                show Steps p.tables e below (s₁.setTop (mkF m 53 #[.val (.int p1)] [(.int (1 : Int32))])) _
                exact k_)
            obtain ⟨fs, hr, hrun, hended, hW, hsame⟩ := X0.leave (v := some (.int (1 : Int32))) (fun h => by rw [Bd.returns] at h; cases h)
            refine ⟨_, _, pre12 _ ?_, hrun, hended, _, _, rfl, ?_, ⟨_, rfl⟩, hW, hsame.mono (by decide) (by decide)⟩
            · exact retN X0 hx (t := .boolean) Bd.returns (by simp) (hb hby dA_53) hr
            · show QA Z p1 h0 n0 _ s₁.heap _
              rw [e0]
              exact ⟨congrArg (fun z => some (Value.int z)) (own_b1 (P := own_P p1) (by simp [own_P, c3_2, c15_4, c27_6, c39_8, c45_11])), N0, rfl⟩
          · have pre13 : ∀ t, Steps p.tables e below (s₁.setTop (mkF m 53 #[.val (.int p1)] [(.int (0 : Int32))])) t → Steps p.tables e below (s₁.setTop (entryFrame m #[(.int p1)] 1)) t := fun t_ k_ => pre10 t_ (by
                refine XS.icmpYes X0.here hx rfl (pc0 := 45) (pc' := 52) rfl (hb hby dA_45) rfl (feq c45_11).2 (by decide) (by decide) ?_
                show Steps p.tables e below (s₁.setTop (mkF m 52 #[.val (.int p1)] [])) _
                refine XS.iconst X0.here hx rfl (hb hby dA_52) ?_
                show Steps p.tables e below (s₁.setTop (mkF m 53 #[.val (.int p1)] [(.int (0 : Int32))])) _
                exact k_)
            obtain ⟨fs, hr, hrun, hended, hW, hsame⟩ := X0.leave (v := some (.int (0 : Int32))) (fun h => by rw [Bd.returns] at h; cases h)
            refine ⟨_, _, pre13 _ ?_, hrun, hended, _, _, rfl, ?_, ⟨_, rfl⟩, hW, hsame.mono (by decide) (by decide)⟩
            · exact retN X0 hx (t := .boolean) Bd.returns (by simp) (hb hby dA_53) hr
            · show QA Z p1 h0 n0 _ s₁.heap _
              rw [e0]
              exact ⟨congrArg (fun z => some (Value.int z)) (own_b0 (P := own_P p1) (by simp [own_P, c3_2, c15_4, c27_6, c39_8, c45_11])), N0, rfl⟩
      · have pre14 : ∀ t, Steps p.tables e below (s₁.setTop (mkF m 33 #[.val (.int p1)] [(.int (57 : Int32)), (.int p1)])) t → Steps p.tables e below (s₁.setTop (entryFrame m #[(.int p1)] 1)) t := fun t_ k_ => pre5 t_ (by
            refine XS.icmpNo X0.here hx rfl (hb hby dA_27) rfl (flt c27_6).1 ?_
            show Steps p.tables e below (s₁.setTop (mkF m 30 #[.val (.int p1)] [])) _
            refine XS.iloadN X0.here hx rfl (hb hby dA_30) rfl ?_
            show Steps p.tables e below (s₁.setTop (mkF m 31 #[.val (.int p1)] [(.int p1)])) _
            refine XS.bipush X0.here hx rfl (hb hby dA_31) ?_
            show Steps p.tables e below (s₁.setTop (mkF m 33 #[.val (.int p1)] [(.int (57 : Int32)), (.int p1)])) _
            exact k_)
        by_cases c33_15 : (57 : Int32) < p1
        · have pre16 : ∀ t, Steps p.tables e below (s₁.setTop (mkF m 39 #[.val (.int p1)] [(.int (95 : Int32)), (.int p1)])) t → Steps p.tables e below (s₁.setTop (entryFrame m #[(.int p1)] 1)) t := fun t_ k_ => pre14 t_ (by
              refine XS.icmpNo X0.here hx rfl (hb hby dA_33) rfl (tlt c33_15).2.2.2 ?_
              show Steps p.tables e below (s₁.setTop (mkF m 36 #[.val (.int p1)] [])) _
              refine XS.iloadN X0.here hx rfl (hb hby dA_36) rfl ?_
              show Steps p.tables e below (s₁.setTop (mkF m 37 #[.val (.int p1)] [(.int p1)])) _
              refine XS.bipush X0.here hx rfl (hb hby dA_37) ?_
              show Steps p.tables e below (s₁.setTop (mkF m 39 #[.val (.int p1)] [(.int (95 : Int32)), (.int p1)])) _
              exact k_)
          by_cases c39_17 : p1 = (95 : Int32)
          · have pre18 : ∀ t, Steps p.tables e below (s₁.setTop (mkF m 53 #[.val (.int p1)] [(.int (1 : Int32))])) t → Steps p.tables e below (s₁.setTop (entryFrame m #[(.int p1)] 1)) t := fun t_ k_ => pre16 t_ (by
                refine XS.icmpYes X0.here hx rfl (pc0 := 39) (pc' := 48) rfl (hb hby dA_39) rfl (teq c39_17).1 (by decide) (by decide) ?_
                show Steps p.tables e below (s₁.setTop (mkF m 48 #[.val (.int p1)] [])) _
                refine XS.iconst X0.here hx rfl (hb hby dA_48) ?_
                show Steps p.tables e below (s₁.setTop (mkF m 49 #[.val (.int p1)] [(.int (1 : Int32))])) _
                refine XS.goto X0.here hx rfl (pc0 := 49) (pc' := 53) rfl (hb hby dA_49) (by decide) (by decide) ?_
                show Steps p.tables e below (s₁.setTop (mkF m 53 #[.val (.int p1)] [(.int (1 : Int32))])) _
                exact k_)
            obtain ⟨fs, hr, hrun, hended, hW, hsame⟩ := X0.leave (v := some (.int (1 : Int32))) (fun h => by rw [Bd.returns] at h; cases h)
            refine ⟨_, _, pre18 _ ?_, hrun, hended, _, _, rfl, ?_, ⟨_, rfl⟩, hW, hsame.mono (by decide) (by decide)⟩
            · exact retN X0 hx (t := .boolean) Bd.returns (by simp) (hb hby dA_53) hr
            · show QA Z p1 h0 n0 _ s₁.heap _
              rw [e0]
              exact ⟨congrArg (fun z => some (Value.int z)) (own_b1 (P := own_P p1) (by simp [own_P, c3_2, c15_4, c27_6, c33_15, c39_17])), N0, rfl⟩
          · have pre19 : ∀ t, Steps p.tables e below (s₁.setTop (mkF m 45 #[.val (.int p1)] [(.int (45 : Int32)), (.int p1)])) t → Steps p.tables e below (s₁.setTop (entryFrame m #[(.int p1)] 1)) t := fun t_ k_ => pre16 t_ (by
                refine XS.icmpNo X0.here hx rfl (hb hby dA_39) rfl (feq c39_17).1 ?_
                show Steps p.tables e below (s₁.setTop (mkF m 42 #[.val (.int p1)] [])) _
                refine XS.iloadN X0.here hx rfl (hb hby dA_42) rfl ?_
                show Steps p.tables e below (s₁.setTop (mkF m 43 #[.val (.int p1)] [(.int p1)])) _
                refine XS.bipush X0.here hx rfl (hb hby dA_43) ?_
                show Steps p.tables e below (s₁.setTop (mkF m 45 #[.val (.int p1)] [(.int (45 : Int32)), (.int p1)])) _
                exact k_)
            by_cases c45_20 : p1 = (45 : Int32)
            · have pre21 : ∀ t, Steps p.tables e below (s₁.setTop (mkF m 53 #[.val (.int p1)] [(.int (1 : Int32))])) t → Steps p.tables e below (s₁.setTop (entryFrame m #[(.int p1)] 1)) t := fun t_ k_ => pre19 t_ (by
                  refine XS.icmpNo X0.here hx rfl (hb hby dA_45) rfl (teq c45_20).2 ?_
                  show Steps p.tables e below (s₁.setTop (mkF m 48 #[.val (.int p1)] [])) _
                  refine XS.iconst X0.here hx rfl (hb hby dA_48) ?_
                  show Steps p.tables e below (s₁.setTop (mkF m 49 #[.val (.int p1)] [(.int (1 : Int32))])) _
                  refine XS.goto X0.here hx rfl (pc0 := 49) (pc' := 53) rfl (hb hby dA_49) (by decide) (by decide) ?_
                  show Steps p.tables e below (s₁.setTop (mkF m 53 #[.val (.int p1)] [(.int (1 : Int32))])) _
                  exact k_)
              obtain ⟨fs, hr, hrun, hended, hW, hsame⟩ := X0.leave (v := some (.int (1 : Int32))) (fun h => by rw [Bd.returns] at h; cases h)
              refine ⟨_, _, pre21 _ ?_, hrun, hended, _, _, rfl, ?_, ⟨_, rfl⟩, hW, hsame.mono (by decide) (by decide)⟩
              · exact retN X0 hx (t := .boolean) Bd.returns (by simp) (hb hby dA_53) hr
              · show QA Z p1 h0 n0 _ s₁.heap _
                rw [e0]
                exact ⟨congrArg (fun z => some (Value.int z)) (own_b1 (P := own_P p1) (by simp [own_P, c3_2, c15_4, c27_6, c33_15, c39_17, c45_20])), N0, rfl⟩
            · have pre22 : ∀ t, Steps p.tables e below (s₁.setTop (mkF m 53 #[.val (.int p1)] [(.int (0 : Int32))])) t → Steps p.tables e below (s₁.setTop (entryFrame m #[(.int p1)] 1)) t := fun t_ k_ => pre19 t_ (by
                  refine XS.icmpYes X0.here hx rfl (pc0 := 45) (pc' := 52) rfl (hb hby dA_45) rfl (feq c45_20).2 (by decide) (by decide) ?_
                  show Steps p.tables e below (s₁.setTop (mkF m 52 #[.val (.int p1)] [])) _
                  refine XS.iconst X0.here hx rfl (hb hby dA_52) ?_
                  show Steps p.tables e below (s₁.setTop (mkF m 53 #[.val (.int p1)] [(.int (0 : Int32))])) _
                  exact k_)
              obtain ⟨fs, hr, hrun, hended, hW, hsame⟩ := X0.leave (v := some (.int (0 : Int32))) (fun h => by rw [Bd.returns] at h; cases h)
              refine ⟨_, _, pre22 _ ?_, hrun, hended, _, _, rfl, ?_, ⟨_, rfl⟩, hW, hsame.mono (by decide) (by decide)⟩
              · exact retN X0 hx (t := .boolean) Bd.returns (by simp) (hb hby dA_53) hr
              · show QA Z p1 h0 n0 _ s₁.heap _
                rw [e0]
                exact ⟨congrArg (fun z => some (Value.int z)) (own_b0 (P := own_P p1) (by simp [own_P, c3_2, c15_4, c27_6, c33_15, c39_17, c45_20])), N0, rfl⟩
        · have pre23 : ∀ t, Steps p.tables e below (s₁.setTop (mkF m 53 #[.val (.int p1)] [(.int (1 : Int32))])) t → Steps p.tables e below (s₁.setTop (entryFrame m #[(.int p1)] 1)) t := fun t_ k_ => pre14 t_ (by
              refine XS.icmpYes X0.here hx rfl (pc0 := 33) (pc' := 48) rfl (hb hby dA_33) rfl (flt c33_15).2.2.2 (by decide) (by decide) ?_
              show Steps p.tables e below (s₁.setTop (mkF m 48 #[.val (.int p1)] [])) _
              refine XS.iconst X0.here hx rfl (hb hby dA_48) ?_
              show Steps p.tables e below (s₁.setTop (mkF m 49 #[.val (.int p1)] [(.int (1 : Int32))])) _
              refine XS.goto X0.here hx rfl (pc0 := 49) (pc' := 53) rfl (hb hby dA_49) (by decide) (by decide) ?_
              show Steps p.tables e below (s₁.setTop (mkF m 53 #[.val (.int p1)] [(.int (1 : Int32))])) _
              exact k_)
          obtain ⟨fs, hr, hrun, hended, hW, hsame⟩ := X0.leave (v := some (.int (1 : Int32))) (fun h => by rw [Bd.returns] at h; cases h)
          refine ⟨_, _, pre23 _ ?_, hrun, hended, _, _, rfl, ?_, ⟨_, rfl⟩, hW, hsame.mono (by decide) (by decide)⟩
          · exact retN X0 hx (t := .boolean) Bd.returns (by simp) (hb hby dA_53) hr
          · show QA Z p1 h0 n0 _ s₁.heap _
            rw [e0]
            exact ⟨congrArg (fun z => some (Value.int z)) (own_b1 (P := own_P p1) (by simp [own_P, c3_2, c15_4, c27_6, c33_15])), N0, rfl⟩
    · have pre24 : ∀ t, Steps p.tables e below (s₁.setTop (mkF m 21 #[.val (.int p1)] [(.int (90 : Int32)), (.int p1)])) t → Steps p.tables e below (s₁.setTop (entryFrame m #[(.int p1)] 1)) t := fun t_ k_ => pre3 t_ (by
          refine XS.icmpNo X0.here hx rfl (hb hby dA_15) rfl (flt c15_4).1 ?_
          show Steps p.tables e below (s₁.setTop (mkF m 18 #[.val (.int p1)] [])) _
          refine XS.iloadN X0.here hx rfl (hb hby dA_18) rfl ?_
          show Steps p.tables e below (s₁.setTop (mkF m 19 #[.val (.int p1)] [(.int p1)])) _
          refine XS.bipush X0.here hx rfl (hb hby dA_19) ?_
          show Steps p.tables e below (s₁.setTop (mkF m 21 #[.val (.int p1)] [(.int (90 : Int32)), (.int p1)])) _
          exact k_)
      by_cases c21_25 : (90 : Int32) < p1
      · have pre26 : ∀ t, Steps p.tables e below (s₁.setTop (mkF m 27 #[.val (.int p1)] [(.int (48 : Int32)), (.int p1)])) t → Steps p.tables e below (s₁.setTop (entryFrame m #[(.int p1)] 1)) t := fun t_ k_ => pre24 t_ (by
            refine XS.icmpNo X0.here hx rfl (hb hby dA_21) rfl (tlt c21_25).2.2.2 ?_
            show Steps p.tables e below (s₁.setTop (mkF m 24 #[.val (.int p1)] [])) _
            refine XS.iloadN X0.here hx rfl (hb hby dA_24) rfl ?_
            show Steps p.tables e below (s₁.setTop (mkF m 25 #[.val (.int p1)] [(.int p1)])) _
            refine XS.bipush X0.here hx rfl (hb hby dA_25) ?_
            show Steps p.tables e below (s₁.setTop (mkF m 27 #[.val (.int p1)] [(.int (48 : Int32)), (.int p1)])) _
            exact k_)
        by_cases c27_27 : p1 < (48 : Int32)
        · have pre28 : ∀ t, Steps p.tables e below (s₁.setTop (mkF m 39 #[.val (.int p1)] [(.int (95 : Int32)), (.int p1)])) t → Steps p.tables e below (s₁.setTop (entryFrame m #[(.int p1)] 1)) t := fun t_ k_ => pre26 t_ (by
              refine XS.icmpYes X0.here hx rfl (pc0 := 27) (pc' := 36) rfl (hb hby dA_27) rfl (tlt c27_27).1 (by decide) (by decide) ?_
              show Steps p.tables e below (s₁.setTop (mkF m 36 #[.val (.int p1)] [])) _
              refine XS.iloadN X0.here hx rfl (hb hby dA_36) rfl ?_
              show Steps p.tables e below (s₁.setTop (mkF m 37 #[.val (.int p1)] [(.int p1)])) _
              refine XS.bipush X0.here hx rfl (hb hby dA_37) ?_
              show Steps p.tables e below (s₁.setTop (mkF m 39 #[.val (.int p1)] [(.int (95 : Int32)), (.int p1)])) _
              exact k_)
          by_cases c39_29 : p1 = (95 : Int32)
          · have pre30 : ∀ t, Steps p.tables e below (s₁.setTop (mkF m 53 #[.val (.int p1)] [(.int (1 : Int32))])) t → Steps p.tables e below (s₁.setTop (entryFrame m #[(.int p1)] 1)) t := fun t_ k_ => pre28 t_ (by
                refine XS.icmpYes X0.here hx rfl (pc0 := 39) (pc' := 48) rfl (hb hby dA_39) rfl (teq c39_29).1 (by decide) (by decide) ?_
                show Steps p.tables e below (s₁.setTop (mkF m 48 #[.val (.int p1)] [])) _
                refine XS.iconst X0.here hx rfl (hb hby dA_48) ?_
                show Steps p.tables e below (s₁.setTop (mkF m 49 #[.val (.int p1)] [(.int (1 : Int32))])) _
                refine XS.goto X0.here hx rfl (pc0 := 49) (pc' := 53) rfl (hb hby dA_49) (by decide) (by decide) ?_
                show Steps p.tables e below (s₁.setTop (mkF m 53 #[.val (.int p1)] [(.int (1 : Int32))])) _
                exact k_)
            obtain ⟨fs, hr, hrun, hended, hW, hsame⟩ := X0.leave (v := some (.int (1 : Int32))) (fun h => by rw [Bd.returns] at h; cases h)
            refine ⟨_, _, pre30 _ ?_, hrun, hended, _, _, rfl, ?_, ⟨_, rfl⟩, hW, hsame.mono (by decide) (by decide)⟩
            · exact retN X0 hx (t := .boolean) Bd.returns (by simp) (hb hby dA_53) hr
            · show QA Z p1 h0 n0 _ s₁.heap _
              rw [e0]
              exact ⟨congrArg (fun z => some (Value.int z)) (own_b1 (P := own_P p1) (by simp [own_P, c3_2, c15_4, c21_25, c27_27, c39_29])), N0, rfl⟩
          · have pre31 : ∀ t, Steps p.tables e below (s₁.setTop (mkF m 45 #[.val (.int p1)] [(.int (45 : Int32)), (.int p1)])) t → Steps p.tables e below (s₁.setTop (entryFrame m #[(.int p1)] 1)) t := fun t_ k_ => pre28 t_ (by
                refine XS.icmpNo X0.here hx rfl (hb hby dA_39) rfl (feq c39_29).1 ?_
                show Steps p.tables e below (s₁.setTop (mkF m 42 #[.val (.int p1)] [])) _
                refine XS.iloadN X0.here hx rfl (hb hby dA_42) rfl ?_
                show Steps p.tables e below (s₁.setTop (mkF m 43 #[.val (.int p1)] [(.int p1)])) _
                refine XS.bipush X0.here hx rfl (hb hby dA_43) ?_
                show Steps p.tables e below (s₁.setTop (mkF m 45 #[.val (.int p1)] [(.int (45 : Int32)), (.int p1)])) _
                exact k_)
            by_cases c45_32 : p1 = (45 : Int32)
            · have pre33 : ∀ t, Steps p.tables e below (s₁.setTop (mkF m 53 #[.val (.int p1)] [(.int (1 : Int32))])) t → Steps p.tables e below (s₁.setTop (entryFrame m #[(.int p1)] 1)) t := fun t_ k_ => pre31 t_ (by
                  refine XS.icmpNo X0.here hx rfl (hb hby dA_45) rfl (teq c45_32).2 ?_
                  show Steps p.tables e below (s₁.setTop (mkF m 48 #[.val (.int p1)] [])) _
                  refine XS.iconst X0.here hx rfl (hb hby dA_48) ?_
                  show Steps p.tables e below (s₁.setTop (mkF m 49 #[.val (.int p1)] [(.int (1 : Int32))])) _
                  refine XS.goto X0.here hx rfl (pc0 := 49) (pc' := 53) rfl (hb hby dA_49) (by decide) (by decide) ?_
                  show Steps p.tables e below (s₁.setTop (mkF m 53 #[.val (.int p1)] [(.int (1 : Int32))])) _
                  exact k_)
              obtain ⟨fs, hr, hrun, hended, hW, hsame⟩ := X0.leave (v := some (.int (1 : Int32))) (fun h => by rw [Bd.returns] at h; cases h)
              refine ⟨_, _, pre33 _ ?_, hrun, hended, _, _, rfl, ?_, ⟨_, rfl⟩, hW, hsame.mono (by decide) (by decide)⟩
              · exact retN X0 hx (t := .boolean) Bd.returns (by simp) (hb hby dA_53) hr
              · show QA Z p1 h0 n0 _ s₁.heap _
                rw [e0]
                exact ⟨congrArg (fun z => some (Value.int z)) (own_b1 (P := own_P p1) (by simp [own_P, c3_2, c15_4, c21_25, c27_27, c39_29, c45_32])), N0, rfl⟩
            · have pre34 : ∀ t, Steps p.tables e below (s₁.setTop (mkF m 53 #[.val (.int p1)] [(.int (0 : Int32))])) t → Steps p.tables e below (s₁.setTop (entryFrame m #[(.int p1)] 1)) t := fun t_ k_ => pre31 t_ (by
                  refine XS.icmpYes X0.here hx rfl (pc0 := 45) (pc' := 52) rfl (hb hby dA_45) rfl (feq c45_32).2 (by decide) (by decide) ?_
                  show Steps p.tables e below (s₁.setTop (mkF m 52 #[.val (.int p1)] [])) _
                  refine XS.iconst X0.here hx rfl (hb hby dA_52) ?_
                  show Steps p.tables e below (s₁.setTop (mkF m 53 #[.val (.int p1)] [(.int (0 : Int32))])) _
                  exact k_)
              obtain ⟨fs, hr, hrun, hended, hW, hsame⟩ := X0.leave (v := some (.int (0 : Int32))) (fun h => by rw [Bd.returns] at h; cases h)
              refine ⟨_, _, pre34 _ ?_, hrun, hended, _, _, rfl, ?_, ⟨_, rfl⟩, hW, hsame.mono (by decide) (by decide)⟩
              · exact retN X0 hx (t := .boolean) Bd.returns (by simp) (hb hby dA_53) hr
              · show QA Z p1 h0 n0 _ s₁.heap _
                rw [e0]
                exact ⟨congrArg (fun z => some (Value.int z)) (own_b0 (P := own_P p1) (by simp [own_P, c3_2, c15_4, c21_25, c27_27, c39_29, c45_32])), N0, rfl⟩
        · have pre35 : ∀ t, Steps p.tables e below (s₁.setTop (mkF m 33 #[.val (.int p1)] [(.int (57 : Int32)), (.int p1)])) t → Steps p.tables e below (s₁.setTop (entryFrame m #[(.int p1)] 1)) t := fun t_ k_ => pre26 t_ (by
              refine XS.icmpNo X0.here hx rfl (hb hby dA_27) rfl (flt c27_27).1 ?_
              show Steps p.tables e below (s₁.setTop (mkF m 30 #[.val (.int p1)] [])) _
              refine XS.iloadN X0.here hx rfl (hb hby dA_30) rfl ?_
              show Steps p.tables e below (s₁.setTop (mkF m 31 #[.val (.int p1)] [(.int p1)])) _
              refine XS.bipush X0.here hx rfl (hb hby dA_31) ?_
              show Steps p.tables e below (s₁.setTop (mkF m 33 #[.val (.int p1)] [(.int (57 : Int32)), (.int p1)])) _
              exact k_)
          by_cases c33_36 : (57 : Int32) < p1
          · have pre37 : ∀ t, Steps p.tables e below (s₁.setTop (mkF m 39 #[.val (.int p1)] [(.int (95 : Int32)), (.int p1)])) t → Steps p.tables e below (s₁.setTop (entryFrame m #[(.int p1)] 1)) t := fun t_ k_ => pre35 t_ (by
                refine XS.icmpNo X0.here hx rfl (hb hby dA_33) rfl (tlt c33_36).2.2.2 ?_
                show Steps p.tables e below (s₁.setTop (mkF m 36 #[.val (.int p1)] [])) _
                refine XS.iloadN X0.here hx rfl (hb hby dA_36) rfl ?_
                show Steps p.tables e below (s₁.setTop (mkF m 37 #[.val (.int p1)] [(.int p1)])) _
                refine XS.bipush X0.here hx rfl (hb hby dA_37) ?_
                show Steps p.tables e below (s₁.setTop (mkF m 39 #[.val (.int p1)] [(.int (95 : Int32)), (.int p1)])) _
                exact k_)
            by_cases c39_38 : p1 = (95 : Int32)
            · have pre39 : ∀ t, Steps p.tables e below (s₁.setTop (mkF m 53 #[.val (.int p1)] [(.int (1 : Int32))])) t → Steps p.tables e below (s₁.setTop (entryFrame m #[(.int p1)] 1)) t := fun t_ k_ => pre37 t_ (by
                  refine XS.icmpYes X0.here hx rfl (pc0 := 39) (pc' := 48) rfl (hb hby dA_39) rfl (teq c39_38).1 (by decide) (by decide) ?_
                  show Steps p.tables e below (s₁.setTop (mkF m 48 #[.val (.int p1)] [])) _
                  refine XS.iconst X0.here hx rfl (hb hby dA_48) ?_
                  show Steps p.tables e below (s₁.setTop (mkF m 49 #[.val (.int p1)] [(.int (1 : Int32))])) _
                  refine XS.goto X0.here hx rfl (pc0 := 49) (pc' := 53) rfl (hb hby dA_49) (by decide) (by decide) ?_
                  show Steps p.tables e below (s₁.setTop (mkF m 53 #[.val (.int p1)] [(.int (1 : Int32))])) _
                  exact k_)
              obtain ⟨fs, hr, hrun, hended, hW, hsame⟩ := X0.leave (v := some (.int (1 : Int32))) (fun h => by rw [Bd.returns] at h; cases h)
              refine ⟨_, _, pre39 _ ?_, hrun, hended, _, _, rfl, ?_, ⟨_, rfl⟩, hW, hsame.mono (by decide) (by decide)⟩
              · exact retN X0 hx (t := .boolean) Bd.returns (by simp) (hb hby dA_53) hr
              · show QA Z p1 h0 n0 _ s₁.heap _
                rw [e0]
                exact ⟨congrArg (fun z => some (Value.int z)) (own_b1 (P := own_P p1) (by simp [own_P, c3_2, c15_4, c21_25, c27_27, c33_36, c39_38])), N0, rfl⟩
            · have pre40 : ∀ t, Steps p.tables e below (s₁.setTop (mkF m 45 #[.val (.int p1)] [(.int (45 : Int32)), (.int p1)])) t → Steps p.tables e below (s₁.setTop (entryFrame m #[(.int p1)] 1)) t := fun t_ k_ => pre37 t_ (by
                  refine XS.icmpNo X0.here hx rfl (hb hby dA_39) rfl (feq c39_38).1 ?_
                  show Steps p.tables e below (s₁.setTop (mkF m 42 #[.val (.int p1)] [])) _
                  refine XS.iloadN X0.here hx rfl (hb hby dA_42) rfl ?_
                  show Steps p.tables e below (s₁.setTop (mkF m 43 #[.val (.int p1)] [(.int p1)])) _
                  refine XS.bipush X0.here hx rfl (hb hby dA_43) ?_
                  show Steps p.tables e below (s₁.setTop (mkF m 45 #[.val (.int p1)] [(.int (45 : Int32)), (.int p1)])) _
                  exact k_)
              by_cases c45_41 : p1 = (45 : Int32)
              · have pre42 : ∀ t, Steps p.tables e below (s₁.setTop (mkF m 53 #[.val (.int p1)] [(.int (1 : Int32))])) t → Steps p.tables e below (s₁.setTop (entryFrame m #[(.int p1)] 1)) t := fun t_ k_ => pre40 t_ (by
                    refine XS.icmpNo X0.here hx rfl (hb hby dA_45) rfl (teq c45_41).2 ?_
                    show Steps p.tables e below (s₁.setTop (mkF m 48 #[.val (.int p1)] [])) _
                    refine XS.iconst X0.here hx rfl (hb hby dA_48) ?_
                    show Steps p.tables e below (s₁.setTop (mkF m 49 #[.val (.int p1)] [(.int (1 : Int32))])) _
                    refine XS.goto X0.here hx rfl (pc0 := 49) (pc' := 53) rfl (hb hby dA_49) (by decide) (by decide) ?_
                    show Steps p.tables e below (s₁.setTop (mkF m 53 #[.val (.int p1)] [(.int (1 : Int32))])) _
                    exact k_)
                obtain ⟨fs, hr, hrun, hended, hW, hsame⟩ := X0.leave (v := some (.int (1 : Int32))) (fun h => by rw [Bd.returns] at h; cases h)
                refine ⟨_, _, pre42 _ ?_, hrun, hended, _, _, rfl, ?_, ⟨_, rfl⟩, hW, hsame.mono (by decide) (by decide)⟩
                · exact retN X0 hx (t := .boolean) Bd.returns (by simp) (hb hby dA_53) hr
                · show QA Z p1 h0 n0 _ s₁.heap _
                  rw [e0]
                  exact ⟨congrArg (fun z => some (Value.int z)) (own_b1 (P := own_P p1) (by simp [own_P, c3_2, c15_4, c21_25, c27_27, c33_36, c39_38, c45_41])), N0, rfl⟩
              · have pre43 : ∀ t, Steps p.tables e below (s₁.setTop (mkF m 53 #[.val (.int p1)] [(.int (0 : Int32))])) t → Steps p.tables e below (s₁.setTop (entryFrame m #[(.int p1)] 1)) t := fun t_ k_ => pre40 t_ (by
                    refine XS.icmpYes X0.here hx rfl (pc0 := 45) (pc' := 52) rfl (hb hby dA_45) rfl (feq c45_41).2 (by decide) (by decide) ?_
                    show Steps p.tables e below (s₁.setTop (mkF m 52 #[.val (.int p1)] [])) _
                    refine XS.iconst X0.here hx rfl (hb hby dA_52) ?_
                    show Steps p.tables e below (s₁.setTop (mkF m 53 #[.val (.int p1)] [(.int (0 : Int32))])) _
                    exact k_)
                obtain ⟨fs, hr, hrun, hended, hW, hsame⟩ := X0.leave (v := some (.int (0 : Int32))) (fun h => by rw [Bd.returns] at h; cases h)
                refine ⟨_, _, pre43 _ ?_, hrun, hended, _, _, rfl, ?_, ⟨_, rfl⟩, hW, hsame.mono (by decide) (by decide)⟩
                · exact retN X0 hx (t := .boolean) Bd.returns (by simp) (hb hby dA_53) hr
                · show QA Z p1 h0 n0 _ s₁.heap _
                  rw [e0]
                  exact ⟨congrArg (fun z => some (Value.int z)) (own_b0 (P := own_P p1) (by simp [own_P, c3_2, c15_4, c21_25, c27_27, c33_36, c39_38, c45_41])), N0, rfl⟩
          · have pre44 : ∀ t, Steps p.tables e below (s₁.setTop (mkF m 53 #[.val (.int p1)] [(.int (1 : Int32))])) t → Steps p.tables e below (s₁.setTop (entryFrame m #[(.int p1)] 1)) t := fun t_ k_ => pre35 t_ (by
                refine XS.icmpYes X0.here hx rfl (pc0 := 33) (pc' := 48) rfl (hb hby dA_33) rfl (flt c33_36).2.2.2 (by decide) (by decide) ?_
                show Steps p.tables e below (s₁.setTop (mkF m 48 #[.val (.int p1)] [])) _
                refine XS.iconst X0.here hx rfl (hb hby dA_48) ?_
                show Steps p.tables e below (s₁.setTop (mkF m 49 #[.val (.int p1)] [(.int (1 : Int32))])) _
                refine XS.goto X0.here hx rfl (pc0 := 49) (pc' := 53) rfl (hb hby dA_49) (by decide) (by decide) ?_
                show Steps p.tables e below (s₁.setTop (mkF m 53 #[.val (.int p1)] [(.int (1 : Int32))])) _
                exact k_)
            obtain ⟨fs, hr, hrun, hended, hW, hsame⟩ := X0.leave (v := some (.int (1 : Int32))) (fun h => by rw [Bd.returns] at h; cases h)
            refine ⟨_, _, pre44 _ ?_, hrun, hended, _, _, rfl, ?_, ⟨_, rfl⟩, hW, hsame.mono (by decide) (by decide)⟩
            · exact retN X0 hx (t := .boolean) Bd.returns (by simp) (hb hby dA_53) hr
            · show QA Z p1 h0 n0 _ s₁.heap _
              rw [e0]
              exact ⟨congrArg (fun z => some (Value.int z)) (own_b1 (P := own_P p1) (by simp [own_P, c3_2, c15_4, c21_25, c27_27, c33_36])), N0, rfl⟩
      · have pre45 : ∀ t, Steps p.tables e below (s₁.setTop (mkF m 53 #[.val (.int p1)] [(.int (1 : Int32))])) t → Steps p.tables e below (s₁.setTop (entryFrame m #[(.int p1)] 1)) t := fun t_ k_ => pre24 t_ (by
            refine XS.icmpYes X0.here hx rfl (pc0 := 21) (pc' := 48) rfl (hb hby dA_21) rfl (flt c21_25).2.2.2 (by decide) (by decide) ?_
            show Steps p.tables e below (s₁.setTop (mkF m 48 #[.val (.int p1)] [])) _
            refine XS.iconst X0.here hx rfl (hb hby dA_48) ?_
            show Steps p.tables e below (s₁.setTop (mkF m 49 #[.val (.int p1)] [(.int (1 : Int32))])) _
            refine XS.goto X0.here hx rfl (pc0 := 49) (pc' := 53) rfl (hb hby dA_49) (by decide) (by decide) ?_
            show Steps p.tables e below (s₁.setTop (mkF m 53 #[.val (.int p1)] [(.int (1 : Int32))])) _
            exact k_)
        obtain ⟨fs, hr, hrun, hended, hW, hsame⟩ := X0.leave (v := some (.int (1 : Int32))) (fun h => by rw [Bd.returns] at h; cases h)
        refine ⟨_, _, pre45 _ ?_, hrun, hended, _, _, rfl, ?_, ⟨_, rfl⟩, hW, hsame.mono (by decide) (by decide)⟩
        · exact retN X0 hx (t := .boolean) Bd.returns (by simp) (hb hby dA_53) hr
        · show QA Z p1 h0 n0 _ s₁.heap _
          rw [e0]
          exact ⟨congrArg (fun z => some (Value.int z)) (own_b1 (P := own_P p1) (by simp [own_P, c3_2, c15_4, c21_25])), N0, rfl⟩
  · have pre46 : ∀ t, Steps p.tables e below (s₁.setTop (mkF m 9 #[.val (.int p1)] [(.int (122 : Int32)), (.int p1)])) t → Steps p.tables e below (s₁.setTop (entryFrame m #[(.int p1)] 1)) t := fun t_ k_ => pre1 t_ (by
        refine XS.icmpNo X0.here hx rfl (hb hby dA_3) rfl (flt c3_2).1 ?_
        show Steps p.tables e below (s₁.setTop (mkF m 6 #[.val (.int p1)] [])) _
        refine XS.iloadN X0.here hx rfl (hb hby dA_6) rfl ?_
        show Steps p.tables e below (s₁.setTop (mkF m 7 #[.val (.int p1)] [(.int p1)])) _
        refine XS.bipush X0.here hx rfl (hb hby dA_7) ?_
        show Steps p.tables e below (s₁.setTop (mkF m 9 #[.val (.int p1)] [(.int (122 : Int32)), (.int p1)])) _
        exact k_)
    by_cases c9_47 : (122 : Int32) < p1
    · have pre48 : ∀ t, Steps p.tables e below (s₁.setTop (mkF m 15 #[.val (.int p1)] [(.int (65 : Int32)), (.int p1)])) t → Steps p.tables e below (s₁.setTop (entryFrame m #[(.int p1)] 1)) t := fun t_ k_ => pre46 t_ (by
          refine XS.icmpNo X0.here hx rfl (hb hby dA_9) rfl (tlt c9_47).2.2.2 ?_
          show Steps p.tables e below (s₁.setTop (mkF m 12 #[.val (.int p1)] [])) _
          refine XS.iloadN X0.here hx rfl (hb hby dA_12) rfl ?_
          show Steps p.tables e below (s₁.setTop (mkF m 13 #[.val (.int p1)] [(.int p1)])) _
          refine XS.bipush X0.here hx rfl (hb hby dA_13) ?_
          show Steps p.tables e below (s₁.setTop (mkF m 15 #[.val (.int p1)] [(.int (65 : Int32)), (.int p1)])) _
          exact k_)
      by_cases c15_49 : p1 < (65 : Int32)
      · have pre50 : ∀ t, Steps p.tables e below (s₁.setTop (mkF m 27 #[.val (.int p1)] [(.int (48 : Int32)), (.int p1)])) t → Steps p.tables e below (s₁.setTop (entryFrame m #[(.int p1)] 1)) t := fun t_ k_ => pre48 t_ (by
            refine XS.icmpYes X0.here hx rfl (pc0 := 15) (pc' := 24) rfl (hb hby dA_15) rfl (tlt c15_49).1 (by decide) (by decide) ?_
            show Steps p.tables e below (s₁.setTop (mkF m 24 #[.val (.int p1)] [])) _
            refine XS.iloadN X0.here hx rfl (hb hby dA_24) rfl ?_
            show Steps p.tables e below (s₁.setTop (mkF m 25 #[.val (.int p1)] [(.int p1)])) _
            refine XS.bipush X0.here hx rfl (hb hby dA_25) ?_
            show Steps p.tables e below (s₁.setTop (mkF m 27 #[.val (.int p1)] [(.int (48 : Int32)), (.int p1)])) _
            exact k_)
        by_cases c27_51 : p1 < (48 : Int32)
        · have pre52 : ∀ t, Steps p.tables e below (s₁.setTop (mkF m 39 #[.val (.int p1)] [(.int (95 : Int32)), (.int p1)])) t → Steps p.tables e below (s₁.setTop (entryFrame m #[(.int p1)] 1)) t := fun t_ k_ => pre50 t_ (by
              refine XS.icmpYes X0.here hx rfl (pc0 := 27) (pc' := 36) rfl (hb hby dA_27) rfl (tlt c27_51).1 (by decide) (by decide) ?_
              show Steps p.tables e below (s₁.setTop (mkF m 36 #[.val (.int p1)] [])) _
              refine XS.iloadN X0.here hx rfl (hb hby dA_36) rfl ?_
              show Steps p.tables e below (s₁.setTop (mkF m 37 #[.val (.int p1)] [(.int p1)])) _
              refine XS.bipush X0.here hx rfl (hb hby dA_37) ?_
              show Steps p.tables e below (s₁.setTop (mkF m 39 #[.val (.int p1)] [(.int (95 : Int32)), (.int p1)])) _
              exact k_)
          by_cases c39_53 : p1 = (95 : Int32)
          · have pre54 : ∀ t, Steps p.tables e below (s₁.setTop (mkF m 53 #[.val (.int p1)] [(.int (1 : Int32))])) t → Steps p.tables e below (s₁.setTop (entryFrame m #[(.int p1)] 1)) t := fun t_ k_ => pre52 t_ (by
                refine XS.icmpYes X0.here hx rfl (pc0 := 39) (pc' := 48) rfl (hb hby dA_39) rfl (teq c39_53).1 (by decide) (by decide) ?_
                show Steps p.tables e below (s₁.setTop (mkF m 48 #[.val (.int p1)] [])) _
                refine XS.iconst X0.here hx rfl (hb hby dA_48) ?_
                show Steps p.tables e below (s₁.setTop (mkF m 49 #[.val (.int p1)] [(.int (1 : Int32))])) _
                refine XS.goto X0.here hx rfl (pc0 := 49) (pc' := 53) rfl (hb hby dA_49) (by decide) (by decide) ?_
                show Steps p.tables e below (s₁.setTop (mkF m 53 #[.val (.int p1)] [(.int (1 : Int32))])) _
                exact k_)
            obtain ⟨fs, hr, hrun, hended, hW, hsame⟩ := X0.leave (v := some (.int (1 : Int32))) (fun h => by rw [Bd.returns] at h; cases h)
            refine ⟨_, _, pre54 _ ?_, hrun, hended, _, _, rfl, ?_, ⟨_, rfl⟩, hW, hsame.mono (by decide) (by decide)⟩
            · exact retN X0 hx (t := .boolean) Bd.returns (by simp) (hb hby dA_53) hr
            · show QA Z p1 h0 n0 _ s₁.heap _
              rw [e0]
              exact ⟨congrArg (fun z => some (Value.int z)) (own_b1 (P := own_P p1) (by simp [own_P, c3_2, c9_47, c15_49, c27_51, c39_53])), N0, rfl⟩
          · have pre55 : ∀ t, Steps p.tables e below (s₁.setTop (mkF m 45 #[.val (.int p1)] [(.int (45 : Int32)), (.int p1)])) t → Steps p.tables e below (s₁.setTop (entryFrame m #[(.int p1)] 1)) t := fun t_ k_ => pre52 t_ (by
                refine XS.icmpNo X0.here hx rfl (hb hby dA_39) rfl (feq c39_53).1 ?_
                show Steps p.tables e below (s₁.setTop (mkF m 42 #[.val (.int p1)] [])) _
                refine XS.iloadN X0.here hx rfl (hb hby dA_42) rfl ?_
                show Steps p.tables e below (s₁.setTop (mkF m 43 #[.val (.int p1)] [(.int p1)])) _
                refine XS.bipush X0.here hx rfl (hb hby dA_43) ?_
                show Steps p.tables e below (s₁.setTop (mkF m 45 #[.val (.int p1)] [(.int (45 : Int32)), (.int p1)])) _
                exact k_)
            by_cases c45_56 : p1 = (45 : Int32)
            · have pre57 : ∀ t, Steps p.tables e below (s₁.setTop (mkF m 53 #[.val (.int p1)] [(.int (1 : Int32))])) t → Steps p.tables e below (s₁.setTop (entryFrame m #[(.int p1)] 1)) t := fun t_ k_ => pre55 t_ (by
                  refine XS.icmpNo X0.here hx rfl (hb hby dA_45) rfl (teq c45_56).2 ?_
                  show Steps p.tables e below (s₁.setTop (mkF m 48 #[.val (.int p1)] [])) _
                  refine XS.iconst X0.here hx rfl (hb hby dA_48) ?_
                  show Steps p.tables e below (s₁.setTop (mkF m 49 #[.val (.int p1)] [(.int (1 : Int32))])) _
                  refine XS.goto X0.here hx rfl (pc0 := 49) (pc' := 53) rfl (hb hby dA_49) (by decide) (by decide) ?_
                  show Steps p.tables e below (s₁.setTop (mkF m 53 #[.val (.int p1)] [(.int (1 : Int32))])) _
                  exact k_)
              obtain ⟨fs, hr, hrun, hended, hW, hsame⟩ := X0.leave (v := some (.int (1 : Int32))) (fun h => by rw [Bd.returns] at h; cases h)
              refine ⟨_, _, pre57 _ ?_, hrun, hended, _, _, rfl, ?_, ⟨_, rfl⟩, hW, hsame.mono (by decide) (by decide)⟩
              · exact retN X0 hx (t := .boolean) Bd.returns (by simp) (hb hby dA_53) hr
              · show QA Z p1 h0 n0 _ s₁.heap _
                rw [e0]
                exact ⟨congrArg (fun z => some (Value.int z)) (own_b1 (P := own_P p1) (by simp [own_P, c3_2, c9_47, c15_49, c27_51, c39_53, c45_56])), N0, rfl⟩
            · have pre58 : ∀ t, Steps p.tables e below (s₁.setTop (mkF m 53 #[.val (.int p1)] [(.int (0 : Int32))])) t → Steps p.tables e below (s₁.setTop (entryFrame m #[(.int p1)] 1)) t := fun t_ k_ => pre55 t_ (by
                  refine XS.icmpYes X0.here hx rfl (pc0 := 45) (pc' := 52) rfl (hb hby dA_45) rfl (feq c45_56).2 (by decide) (by decide) ?_
                  show Steps p.tables e below (s₁.setTop (mkF m 52 #[.val (.int p1)] [])) _
                  refine XS.iconst X0.here hx rfl (hb hby dA_52) ?_
                  show Steps p.tables e below (s₁.setTop (mkF m 53 #[.val (.int p1)] [(.int (0 : Int32))])) _
                  exact k_)
              obtain ⟨fs, hr, hrun, hended, hW, hsame⟩ := X0.leave (v := some (.int (0 : Int32))) (fun h => by rw [Bd.returns] at h; cases h)
              refine ⟨_, _, pre58 _ ?_, hrun, hended, _, _, rfl, ?_, ⟨_, rfl⟩, hW, hsame.mono (by decide) (by decide)⟩
              · exact retN X0 hx (t := .boolean) Bd.returns (by simp) (hb hby dA_53) hr
              · show QA Z p1 h0 n0 _ s₁.heap _
                rw [e0]
                exact ⟨congrArg (fun z => some (Value.int z)) (own_b0 (P := own_P p1) (by simp [own_P, c3_2, c9_47, c15_49, c27_51, c39_53, c45_56])), N0, rfl⟩
        · have pre59 : ∀ t, Steps p.tables e below (s₁.setTop (mkF m 33 #[.val (.int p1)] [(.int (57 : Int32)), (.int p1)])) t → Steps p.tables e below (s₁.setTop (entryFrame m #[(.int p1)] 1)) t := fun t_ k_ => pre50 t_ (by
              refine XS.icmpNo X0.here hx rfl (hb hby dA_27) rfl (flt c27_51).1 ?_
              show Steps p.tables e below (s₁.setTop (mkF m 30 #[.val (.int p1)] [])) _
              refine XS.iloadN X0.here hx rfl (hb hby dA_30) rfl ?_
              show Steps p.tables e below (s₁.setTop (mkF m 31 #[.val (.int p1)] [(.int p1)])) _
              refine XS.bipush X0.here hx rfl (hb hby dA_31) ?_
              show Steps p.tables e below (s₁.setTop (mkF m 33 #[.val (.int p1)] [(.int (57 : Int32)), (.int p1)])) _
              exact k_)
          by_cases c33_60 : (57 : Int32) < p1
          · have pre61 : ∀ t, Steps p.tables e below (s₁.setTop (mkF m 39 #[.val (.int p1)] [(.int (95 : Int32)), (.int p1)])) t → Steps p.tables e below (s₁.setTop (entryFrame m #[(.int p1)] 1)) t := fun t_ k_ => pre59 t_ (by
                refine XS.icmpNo X0.here hx rfl (hb hby dA_33) rfl (tlt c33_60).2.2.2 ?_
                show Steps p.tables e below (s₁.setTop (mkF m 36 #[.val (.int p1)] [])) _
                refine XS.iloadN X0.here hx rfl (hb hby dA_36) rfl ?_
                show Steps p.tables e below (s₁.setTop (mkF m 37 #[.val (.int p1)] [(.int p1)])) _
                refine XS.bipush X0.here hx rfl (hb hby dA_37) ?_
                show Steps p.tables e below (s₁.setTop (mkF m 39 #[.val (.int p1)] [(.int (95 : Int32)), (.int p1)])) _
                exact k_)
            by_cases c39_62 : p1 = (95 : Int32)
            · have pre63 : ∀ t, Steps p.tables e below (s₁.setTop (mkF m 53 #[.val (.int p1)] [(.int (1 : Int32))])) t → Steps p.tables e below (s₁.setTop (entryFrame m #[(.int p1)] 1)) t := fun t_ k_ => pre61 t_ (by
                  refine XS.icmpYes X0.here hx rfl (pc0 := 39) (pc' := 48) rfl (hb hby dA_39) rfl (teq c39_62).1 (by decide) (by decide) ?_
                  show Steps p.tables e below (s₁.setTop (mkF m 48 #[.val (.int p1)] [])) _
                  refine XS.iconst X0.here hx rfl (hb hby dA_48) ?_
                  show Steps p.tables e below (s₁.setTop (mkF m 49 #[.val (.int p1)] [(.int (1 : Int32))])) _
                  refine XS.goto X0.here hx rfl (pc0 := 49) (pc' := 53) rfl (hb hby dA_49) (by decide) (by decide) ?_
                  show Steps p.tables e below (s₁.setTop (mkF m 53 #[.val (.int p1)] [(.int (1 : Int32))])) _
                  exact k_)
              obtain ⟨fs, hr, hrun, hended, hW, hsame⟩ := X0.leave (v := some (.int (1 : Int32))) (fun h => by rw [Bd.returns] at h; cases h)
              refine ⟨_, _, pre63 _ ?_, hrun, hended, _, _, rfl, ?_, ⟨_, rfl⟩, hW, hsame.mono (by decide) (by decide)⟩
              · exact retN X0 hx (t := .boolean) Bd.returns (by simp) (hb hby dA_53) hr
              · show QA Z p1 h0 n0 _ s₁.heap _
                rw [e0]
                exact ⟨congrArg (fun z => some (Value.int z)) (own_b1 (P := own_P p1) (by simp [own_P, c3_2, c9_47, c15_49, c27_51, c33_60, c39_62])), N0, rfl⟩
            · have pre64 : ∀ t, Steps p.tables e below (s₁.setTop (mkF m 45 #[.val (.int p1)] [(.int (45 : Int32)), (.int p1)])) t → Steps p.tables e below (s₁.setTop (entryFrame m #[(.int p1)] 1)) t := fun t_ k_ => pre61 t_ (by
                  refine XS.icmpNo X0.here hx rfl (hb hby dA_39) rfl (feq c39_62).1 ?_
                  show Steps p.tables e below (s₁.setTop (mkF m 42 #[.val (.int p1)] [])) _
                  refine XS.iloadN X0.here hx rfl (hb hby dA_42) rfl ?_
                  show Steps p.tables e below (s₁.setTop (mkF m 43 #[.val (.int p1)] [(.int p1)])) _
                  refine XS.bipush X0.here hx rfl (hb hby dA_43) ?_
                  show Steps p.tables e below (s₁.setTop (mkF m 45 #[.val (.int p1)] [(.int (45 : Int32)), (.int p1)])) _
                  exact k_)
              by_cases c45_65 : p1 = (45 : Int32)
              · have pre66 : ∀ t, Steps p.tables e below (s₁.setTop (mkF m 53 #[.val (.int p1)] [(.int (1 : Int32))])) t → Steps p.tables e below (s₁.setTop (entryFrame m #[(.int p1)] 1)) t := fun t_ k_ => pre64 t_ (by
                    refine XS.icmpNo X0.here hx rfl (hb hby dA_45) rfl (teq c45_65).2 ?_
                    show Steps p.tables e below (s₁.setTop (mkF m 48 #[.val (.int p1)] [])) _
                    refine XS.iconst X0.here hx rfl (hb hby dA_48) ?_
                    show Steps p.tables e below (s₁.setTop (mkF m 49 #[.val (.int p1)] [(.int (1 : Int32))])) _
                    refine XS.goto X0.here hx rfl (pc0 := 49) (pc' := 53) rfl (hb hby dA_49) (by decide) (by decide) ?_
                    show Steps p.tables e below (s₁.setTop (mkF m 53 #[.val (.int p1)] [(.int (1 : Int32))])) _
                    exact k_)
                obtain ⟨fs, hr, hrun, hended, hW, hsame⟩ := X0.leave (v := some (.int (1 : Int32))) (fun h => by rw [Bd.returns] at h; cases h)
                refine ⟨_, _, pre66 _ ?_, hrun, hended, _, _, rfl, ?_, ⟨_, rfl⟩, hW, hsame.mono (by decide) (by decide)⟩
                · exact retN X0 hx (t := .boolean) Bd.returns (by simp) (hb hby dA_53) hr
                · show QA Z p1 h0 n0 _ s₁.heap _
                  rw [e0]
                  exact ⟨congrArg (fun z => some (Value.int z)) (own_b1 (P := own_P p1) (by simp [own_P, c3_2, c9_47, c15_49, c27_51, c33_60, c39_62, c45_65])), N0, rfl⟩
              · have pre67 : ∀ t, Steps p.tables e below (s₁.setTop (mkF m 53 #[.val (.int p1)] [(.int (0 : Int32))])) t → Steps p.tables e below (s₁.setTop (entryFrame m #[(.int p1)] 1)) t := fun t_ k_ => pre64 t_ (by
                    refine XS.icmpYes X0.here hx rfl (pc0 := 45) (pc' := 52) rfl (hb hby dA_45) rfl (feq c45_65).2 (by decide) (by decide) ?_
                    show Steps p.tables e below (s₁.setTop (mkF m 52 #[.val (.int p1)] [])) _
                    refine XS.iconst X0.here hx rfl (hb hby dA_52) ?_
                    show Steps p.tables e below (s₁.setTop (mkF m 53 #[.val (.int p1)] [(.int (0 : Int32))])) _
                    exact k_)
                obtain ⟨fs, hr, hrun, hended, hW, hsame⟩ := X0.leave (v := some (.int (0 : Int32))) (fun h => by rw [Bd.returns] at h; cases h)
                refine ⟨_, _, pre67 _ ?_, hrun, hended, _, _, rfl, ?_, ⟨_, rfl⟩, hW, hsame.mono (by decide) (by decide)⟩
                · exact retN X0 hx (t := .boolean) Bd.returns (by simp) (hb hby dA_53) hr
                · show QA Z p1 h0 n0 _ s₁.heap _
                  rw [e0]
                  exact ⟨congrArg (fun z => some (Value.int z)) (own_b0 (P := own_P p1) (by simp [own_P, c3_2, c9_47, c15_49, c27_51, c33_60, c39_62, c45_65])), N0, rfl⟩
          · have pre68 : ∀ t, Steps p.tables e below (s₁.setTop (mkF m 53 #[.val (.int p1)] [(.int (1 : Int32))])) t → Steps p.tables e below (s₁.setTop (entryFrame m #[(.int p1)] 1)) t := fun t_ k_ => pre59 t_ (by
                refine XS.icmpYes X0.here hx rfl (pc0 := 33) (pc' := 48) rfl (hb hby dA_33) rfl (flt c33_60).2.2.2 (by decide) (by decide) ?_
                show Steps p.tables e below (s₁.setTop (mkF m 48 #[.val (.int p1)] [])) _
                refine XS.iconst X0.here hx rfl (hb hby dA_48) ?_
                show Steps p.tables e below (s₁.setTop (mkF m 49 #[.val (.int p1)] [(.int (1 : Int32))])) _
                refine XS.goto X0.here hx rfl (pc0 := 49) (pc' := 53) rfl (hb hby dA_49) (by decide) (by decide) ?_
                show Steps p.tables e below (s₁.setTop (mkF m 53 #[.val (.int p1)] [(.int (1 : Int32))])) _
                exact k_)
            obtain ⟨fs, hr, hrun, hended, hW, hsame⟩ := X0.leave (v := some (.int (1 : Int32))) (fun h => by rw [Bd.returns] at h; cases h)
            refine ⟨_, _, pre68 _ ?_, hrun, hended, _, _, rfl, ?_, ⟨_, rfl⟩, hW, hsame.mono (by decide) (by decide)⟩
            · exact retN X0 hx (t := .boolean) Bd.returns (by simp) (hb hby dA_53) hr
            · show QA Z p1 h0 n0 _ s₁.heap _
              rw [e0]
              exact ⟨congrArg (fun z => some (Value.int z)) (own_b1 (P := own_P p1) (by simp [own_P, c3_2, c9_47, c15_49, c27_51, c33_60])), N0, rfl⟩
      · have pre69 : ∀ t, Steps p.tables e below (s₁.setTop (mkF m 21 #[.val (.int p1)] [(.int (90 : Int32)), (.int p1)])) t → Steps p.tables e below (s₁.setTop (entryFrame m #[(.int p1)] 1)) t := fun t_ k_ => pre48 t_ (by
            refine XS.icmpNo X0.here hx rfl (hb hby dA_15) rfl (flt c15_49).1 ?_
            show Steps p.tables e below (s₁.setTop (mkF m 18 #[.val (.int p1)] [])) _
            refine XS.iloadN X0.here hx rfl (hb hby dA_18) rfl ?_
            show Steps p.tables e below (s₁.setTop (mkF m 19 #[.val (.int p1)] [(.int p1)])) _
            refine XS.bipush X0.here hx rfl (hb hby dA_19) ?_
            show Steps p.tables e below (s₁.setTop (mkF m 21 #[.val (.int p1)] [(.int (90 : Int32)), (.int p1)])) _
            exact k_)
        by_cases c21_70 : (90 : Int32) < p1
        · have pre71 : ∀ t, Steps p.tables e below (s₁.setTop (mkF m 27 #[.val (.int p1)] [(.int (48 : Int32)), (.int p1)])) t → Steps p.tables e below (s₁.setTop (entryFrame m #[(.int p1)] 1)) t := fun t_ k_ => pre69 t_ (by
              refine XS.icmpNo X0.here hx rfl (hb hby dA_21) rfl (tlt c21_70).2.2.2 ?_
              show Steps p.tables e below (s₁.setTop (mkF m 24 #[.val (.int p1)] [])) _
              refine XS.iloadN X0.here hx rfl (hb hby dA_24) rfl ?_
              show Steps p.tables e below (s₁.setTop (mkF m 25 #[.val (.int p1)] [(.int p1)])) _
              refine XS.bipush X0.here hx rfl (hb hby dA_25) ?_
              show Steps p.tables e below (s₁.setTop (mkF m 27 #[.val (.int p1)] [(.int (48 : Int32)), (.int p1)])) _
              exact k_)
          by_cases c27_72 : p1 < (48 : Int32)
          · have pre73 : ∀ t, Steps p.tables e below (s₁.setTop (mkF m 39 #[.val (.int p1)] [(.int (95 : Int32)), (.int p1)])) t → Steps p.tables e below (s₁.setTop (entryFrame m #[(.int p1)] 1)) t := fun t_ k_ => pre71 t_ (by
                refine XS.icmpYes X0.here hx rfl (pc0 := 27) (pc' := 36) rfl (hb hby dA_27) rfl (tlt c27_72).1 (by decide) (by decide) ?_
                show Steps p.tables e below (s₁.setTop (mkF m 36 #[.val (.int p1)] [])) _
                refine XS.iloadN X0.here hx rfl (hb hby dA_36) rfl ?_
                show Steps p.tables e below (s₁.setTop (mkF m 37 #[.val (.int p1)] [(.int p1)])) _
                refine XS.bipush X0.here hx rfl (hb hby dA_37) ?_
                show Steps p.tables e below (s₁.setTop (mkF m 39 #[.val (.int p1)] [(.int (95 : Int32)), (.int p1)])) _
                exact k_)
            by_cases c39_74 : p1 = (95 : Int32)
            · have pre75 : ∀ t, Steps p.tables e below (s₁.setTop (mkF m 53 #[.val (.int p1)] [(.int (1 : Int32))])) t → Steps p.tables e below (s₁.setTop (entryFrame m #[(.int p1)] 1)) t := fun t_ k_ => pre73 t_ (by
                  refine XS.icmpYes X0.here hx rfl (pc0 := 39) (pc' := 48) rfl (hb hby dA_39) rfl (teq c39_74).1 (by decide) (by decide) ?_
                  show Steps p.tables e below (s₁.setTop (mkF m 48 #[.val (.int p1)] [])) _
                  refine XS.iconst X0.here hx rfl (hb hby dA_48) ?_
                  show Steps p.tables e below (s₁.setTop (mkF m 49 #[.val (.int p1)] [(.int (1 : Int32))])) _
                  refine XS.goto X0.here hx rfl (pc0 := 49) (pc' := 53) rfl (hb hby dA_49) (by decide) (by decide) ?_
                  show Steps p.tables e below (s₁.setTop (mkF m 53 #[.val (.int p1)] [(.int (1 : Int32))])) _
                  exact k_)
              obtain ⟨fs, hr, hrun, hended, hW, hsame⟩ := X0.leave (v := some (.int (1 : Int32))) (fun h => by rw [Bd.returns] at h; cases h)
              refine ⟨_, _, pre75 _ ?_, hrun, hended, _, _, rfl, ?_, ⟨_, rfl⟩, hW, hsame.mono (by decide) (by decide)⟩
              · exact retN X0 hx (t := .boolean) Bd.returns (by simp) (hb hby dA_53) hr
              · show QA Z p1 h0 n0 _ s₁.heap _
                rw [e0]
                exact ⟨congrArg (fun z => some (Value.int z)) (own_b1 (P := own_P p1) (by simp [own_P, c3_2, c9_47, c15_49, c21_70, c27_72, c39_74])), N0, rfl⟩
            · have pre76 : ∀ t, Steps p.tables e below (s₁.setTop (mkF m 45 #[.val (.int p1)] [(.int (45 : Int32)), (.int p1)])) t → Steps p.tables e below (s₁.setTop (entryFrame m #[(.int p1)] 1)) t := fun t_ k_ => pre73 t_ (by
                  refine XS.icmpNo X0.here hx rfl (hb hby dA_39) rfl (feq c39_74).1 ?_
                  show Steps p.tables e below (s₁.setTop (mkF m 42 #[.val (.int p1)] [])) _
                  refine XS.iloadN X0.here hx rfl (hb hby dA_42) rfl ?_
                  show Steps p.tables e below (s₁.setTop (mkF m 43 #[.val (.int p1)] [(.int p1)])) _
                  refine XS.bipush X0.here hx rfl (hb hby dA_43) ?_
                  show Steps p.tables e below (s₁.setTop (mkF m 45 #[.val (.int p1)] [(.int (45 : Int32)), (.int p1)])) _
                  exact k_)
              by_cases c45_77 : p1 = (45 : Int32)
              · have pre78 : ∀ t, Steps p.tables e below (s₁.setTop (mkF m 53 #[.val (.int p1)] [(.int (1 : Int32))])) t → Steps p.tables e below (s₁.setTop (entryFrame m #[(.int p1)] 1)) t := fun t_ k_ => pre76 t_ (by
                    refine XS.icmpNo X0.here hx rfl (hb hby dA_45) rfl (teq c45_77).2 ?_
                    show Steps p.tables e below (s₁.setTop (mkF m 48 #[.val (.int p1)] [])) _
                    refine XS.iconst X0.here hx rfl (hb hby dA_48) ?_
                    show Steps p.tables e below (s₁.setTop (mkF m 49 #[.val (.int p1)] [(.int (1 : Int32))])) _
                    refine XS.goto X0.here hx rfl (pc0 := 49) (pc' := 53) rfl (hb hby dA_49) (by decide) (by decide) ?_
                    show Steps p.tables e below (s₁.setTop (mkF m 53 #[.val (.int p1)] [(.int (1 : Int32))])) _
                    exact k_)
                obtain ⟨fs, hr, hrun, hended, hW, hsame⟩ := X0.leave (v := some (.int (1 : Int32))) (fun h => by rw [Bd.returns] at h; cases h)
                refine ⟨_, _, pre78 _ ?_, hrun, hended, _, _, rfl, ?_, ⟨_, rfl⟩, hW, hsame.mono (by decide) (by decide)⟩
                · exact retN X0 hx (t := .boolean) Bd.returns (by simp) (hb hby dA_53) hr
                · show QA Z p1 h0 n0 _ s₁.heap _
                  rw [e0]
                  exact ⟨congrArg (fun z => some (Value.int z)) (own_b1 (P := own_P p1) (by simp [own_P, c3_2, c9_47, c15_49, c21_70, c27_72, c39_74, c45_77])), N0, rfl⟩
              · have pre79 : ∀ t, Steps p.tables e below (s₁.setTop (mkF m 53 #[.val (.int p1)] [(.int (0 : Int32))])) t → Steps p.tables e below (s₁.setTop (entryFrame m #[(.int p1)] 1)) t := fun t_ k_ => pre76 t_ (by
                    refine XS.icmpYes X0.here hx rfl (pc0 := 45) (pc' := 52) rfl (hb hby dA_45) rfl (feq c45_77).2 (by decide) (by decide) ?_
                    show Steps p.tables e below (s₁.setTop (mkF m 52 #[.val (.int p1)] [])) _
                    refine XS.iconst X0.here hx rfl (hb hby dA_52) ?_
                    show Steps p.tables e below (s₁.setTop (mkF m 53 #[.val (.int p1)] [(.int (0 : Int32))])) _
                    exact k_)
                obtain ⟨fs, hr, hrun, hended, hW, hsame⟩ := X0.leave (v := some (.int (0 : Int32))) (fun h => by rw [Bd.returns] at h; cases h)
                refine ⟨_, _, pre79 _ ?_, hrun, hended, _, _, rfl, ?_, ⟨_, rfl⟩, hW, hsame.mono (by decide) (by decide)⟩
                · exact retN X0 hx (t := .boolean) Bd.returns (by simp) (hb hby dA_53) hr
                · show QA Z p1 h0 n0 _ s₁.heap _
                  rw [e0]
                  exact ⟨congrArg (fun z => some (Value.int z)) (own_b0 (P := own_P p1) (by simp [own_P, c3_2, c9_47, c15_49, c21_70, c27_72, c39_74, c45_77])), N0, rfl⟩
          · have pre80 : ∀ t, Steps p.tables e below (s₁.setTop (mkF m 33 #[.val (.int p1)] [(.int (57 : Int32)), (.int p1)])) t → Steps p.tables e below (s₁.setTop (entryFrame m #[(.int p1)] 1)) t := fun t_ k_ => pre71 t_ (by
                refine XS.icmpNo X0.here hx rfl (hb hby dA_27) rfl (flt c27_72).1 ?_
                show Steps p.tables e below (s₁.setTop (mkF m 30 #[.val (.int p1)] [])) _
                refine XS.iloadN X0.here hx rfl (hb hby dA_30) rfl ?_
                show Steps p.tables e below (s₁.setTop (mkF m 31 #[.val (.int p1)] [(.int p1)])) _
                refine XS.bipush X0.here hx rfl (hb hby dA_31) ?_
                show Steps p.tables e below (s₁.setTop (mkF m 33 #[.val (.int p1)] [(.int (57 : Int32)), (.int p1)])) _
                exact k_)
            by_cases c33_81 : (57 : Int32) < p1
            · have pre82 : ∀ t, Steps p.tables e below (s₁.setTop (mkF m 39 #[.val (.int p1)] [(.int (95 : Int32)), (.int p1)])) t → Steps p.tables e below (s₁.setTop (entryFrame m #[(.int p1)] 1)) t := fun t_ k_ => pre80 t_ (by
                  refine XS.icmpNo X0.here hx rfl (hb hby dA_33) rfl (tlt c33_81).2.2.2 ?_
                  show Steps p.tables e below (s₁.setTop (mkF m 36 #[.val (.int p1)] [])) _
                  refine XS.iloadN X0.here hx rfl (hb hby dA_36) rfl ?_
                  show Steps p.tables e below (s₁.setTop (mkF m 37 #[.val (.int p1)] [(.int p1)])) _
                  refine XS.bipush X0.here hx rfl (hb hby dA_37) ?_
                  show Steps p.tables e below (s₁.setTop (mkF m 39 #[.val (.int p1)] [(.int (95 : Int32)), (.int p1)])) _
                  exact k_)
              by_cases c39_83 : p1 = (95 : Int32)
              · have pre84 : ∀ t, Steps p.tables e below (s₁.setTop (mkF m 53 #[.val (.int p1)] [(.int (1 : Int32))])) t → Steps p.tables e below (s₁.setTop (entryFrame m #[(.int p1)] 1)) t := fun t_ k_ => pre82 t_ (by
                    refine XS.icmpYes X0.here hx rfl (pc0 := 39) (pc' := 48) rfl (hb hby dA_39) rfl (teq c39_83).1 (by decide) (by decide) ?_
                    show Steps p.tables e below (s₁.setTop (mkF m 48 #[.val (.int p1)] [])) _
                    refine XS.iconst X0.here hx rfl (hb hby dA_48) ?_
                    show Steps p.tables e below (s₁.setTop (mkF m 49 #[.val (.int p1)] [(.int (1 : Int32))])) _
                    refine XS.goto X0.here hx rfl (pc0 := 49) (pc' := 53) rfl (hb hby dA_49) (by decide) (by decide) ?_
                    show Steps p.tables e below (s₁.setTop (mkF m 53 #[.val (.int p1)] [(.int (1 : Int32))])) _
                    exact k_)
                obtain ⟨fs, hr, hrun, hended, hW, hsame⟩ := X0.leave (v := some (.int (1 : Int32))) (fun h => by rw [Bd.returns] at h; cases h)
                refine ⟨_, _, pre84 _ ?_, hrun, hended, _, _, rfl, ?_, ⟨_, rfl⟩, hW, hsame.mono (by decide) (by decide)⟩
                · exact retN X0 hx (t := .boolean) Bd.returns (by simp) (hb hby dA_53) hr
                · show QA Z p1 h0 n0 _ s₁.heap _
                  rw [e0]
                  exact ⟨congrArg (fun z => some (Value.int z)) (own_b1 (P := own_P p1) (by simp [own_P, c3_2, c9_47, c15_49, c21_70, c27_72, c33_81, c39_83])), N0, rfl⟩
              · have pre85 : ∀ t, Steps p.tables e below (s₁.setTop (mkF m 45 #[.val (.int p1)] [(.int (45 : Int32)), (.int p1)])) t → Steps p.tables e below (s₁.setTop (entryFrame m #[(.int p1)] 1)) t := fun t_ k_ => pre82 t_ (by
                    refine XS.icmpNo X0.here hx rfl (hb hby dA_39) rfl (feq c39_83).1 ?_
                    show Steps p.tables e below (s₁.setTop (mkF m 42 #[.val (.int p1)] [])) _
                    refine XS.iloadN X0.here hx rfl (hb hby dA_42) rfl ?_
                    show Steps p.tables e below (s₁.setTop (mkF m 43 #[.val (.int p1)] [(.int p1)])) _
                    refine XS.bipush X0.here hx rfl (hb hby dA_43) ?_
                    show Steps p.tables e below (s₁.setTop (mkF m 45 #[.val (.int p1)] [(.int (45 : Int32)), (.int p1)])) _
                    exact k_)
                by_cases c45_86 : p1 = (45 : Int32)
                · have pre87 : ∀ t, Steps p.tables e below (s₁.setTop (mkF m 53 #[.val (.int p1)] [(.int (1 : Int32))])) t → Steps p.tables e below (s₁.setTop (entryFrame m #[(.int p1)] 1)) t := fun t_ k_ => pre85 t_ (by
                      refine XS.icmpNo X0.here hx rfl (hb hby dA_45) rfl (teq c45_86).2 ?_
                      show Steps p.tables e below (s₁.setTop (mkF m 48 #[.val (.int p1)] [])) _
                      refine XS.iconst X0.here hx rfl (hb hby dA_48) ?_
                      show Steps p.tables e below (s₁.setTop (mkF m 49 #[.val (.int p1)] [(.int (1 : Int32))])) _
                      refine XS.goto X0.here hx rfl (pc0 := 49) (pc' := 53) rfl (hb hby dA_49) (by decide) (by decide) ?_
                      show Steps p.tables e below (s₁.setTop (mkF m 53 #[.val (.int p1)] [(.int (1 : Int32))])) _
                      exact k_)
                  obtain ⟨fs, hr, hrun, hended, hW, hsame⟩ := X0.leave (v := some (.int (1 : Int32))) (fun h => by rw [Bd.returns] at h; cases h)
                  refine ⟨_, _, pre87 _ ?_, hrun, hended, _, _, rfl, ?_, ⟨_, rfl⟩, hW, hsame.mono (by decide) (by decide)⟩
                  · exact retN X0 hx (t := .boolean) Bd.returns (by simp) (hb hby dA_53) hr
                  · show QA Z p1 h0 n0 _ s₁.heap _
                    rw [e0]
                    exact ⟨congrArg (fun z => some (Value.int z)) (own_b1 (P := own_P p1) (by simp [own_P, c3_2, c9_47, c15_49, c21_70, c27_72, c33_81, c39_83, c45_86])), N0, rfl⟩
                · have pre88 : ∀ t, Steps p.tables e below (s₁.setTop (mkF m 53 #[.val (.int p1)] [(.int (0 : Int32))])) t → Steps p.tables e below (s₁.setTop (entryFrame m #[(.int p1)] 1)) t := fun t_ k_ => pre85 t_ (by
                      refine XS.icmpYes X0.here hx rfl (pc0 := 45) (pc' := 52) rfl (hb hby dA_45) rfl (feq c45_86).2 (by decide) (by decide) ?_
                      show Steps p.tables e below (s₁.setTop (mkF m 52 #[.val (.int p1)] [])) _
                      refine XS.iconst X0.here hx rfl (hb hby dA_52) ?_
                      show Steps p.tables e below (s₁.setTop (mkF m 53 #[.val (.int p1)] [(.int (0 : Int32))])) _
                      exact k_)
                  obtain ⟨fs, hr, hrun, hended, hW, hsame⟩ := X0.leave (v := some (.int (0 : Int32))) (fun h => by rw [Bd.returns] at h; cases h)
                  refine ⟨_, _, pre88 _ ?_, hrun, hended, _, _, rfl, ?_, ⟨_, rfl⟩, hW, hsame.mono (by decide) (by decide)⟩
                  · exact retN X0 hx (t := .boolean) Bd.returns (by simp) (hb hby dA_53) hr
                  · show QA Z p1 h0 n0 _ s₁.heap _
                    rw [e0]
                    exact ⟨congrArg (fun z => some (Value.int z)) (own_b0 (P := own_P p1) (by simp [own_P, c3_2, c9_47, c15_49, c21_70, c27_72, c33_81, c39_83, c45_86])), N0, rfl⟩
            · have pre89 : ∀ t, Steps p.tables e below (s₁.setTop (mkF m 53 #[.val (.int p1)] [(.int (1 : Int32))])) t → Steps p.tables e below (s₁.setTop (entryFrame m #[(.int p1)] 1)) t := fun t_ k_ => pre80 t_ (by
                  refine XS.icmpYes X0.here hx rfl (pc0 := 33) (pc' := 48) rfl (hb hby dA_33) rfl (flt c33_81).2.2.2 (by decide) (by decide) ?_
                  show Steps p.tables e below (s₁.setTop (mkF m 48 #[.val (.int p1)] [])) _
                  refine XS.iconst X0.here hx rfl (hb hby dA_48) ?_
                  show Steps p.tables e below (s₁.setTop (mkF m 49 #[.val (.int p1)] [(.int (1 : Int32))])) _
                  refine XS.goto X0.here hx rfl (pc0 := 49) (pc' := 53) rfl (hb hby dA_49) (by decide) (by decide) ?_
                  show Steps p.tables e below (s₁.setTop (mkF m 53 #[.val (.int p1)] [(.int (1 : Int32))])) _
                  exact k_)
              obtain ⟨fs, hr, hrun, hended, hW, hsame⟩ := X0.leave (v := some (.int (1 : Int32))) (fun h => by rw [Bd.returns] at h; cases h)
              refine ⟨_, _, pre89 _ ?_, hrun, hended, _, _, rfl, ?_, ⟨_, rfl⟩, hW, hsame.mono (by decide) (by decide)⟩
              · exact retN X0 hx (t := .boolean) Bd.returns (by simp) (hb hby dA_53) hr
              · show QA Z p1 h0 n0 _ s₁.heap _
                rw [e0]
                exact ⟨congrArg (fun z => some (Value.int z)) (own_b1 (P := own_P p1) (by simp [own_P, c3_2, c9_47, c15_49, c21_70, c27_72, c33_81])), N0, rfl⟩
        · have pre90 : ∀ t, Steps p.tables e below (s₁.setTop (mkF m 53 #[.val (.int p1)] [(.int (1 : Int32))])) t → Steps p.tables e below (s₁.setTop (entryFrame m #[(.int p1)] 1)) t := fun t_ k_ => pre69 t_ (by
              refine XS.icmpYes X0.here hx rfl (pc0 := 21) (pc' := 48) rfl (hb hby dA_21) rfl (flt c21_70).2.2.2 (by decide) (by decide) ?_
              show Steps p.tables e below (s₁.setTop (mkF m 48 #[.val (.int p1)] [])) _
              refine XS.iconst X0.here hx rfl (hb hby dA_48) ?_
              show Steps p.tables e below (s₁.setTop (mkF m 49 #[.val (.int p1)] [(.int (1 : Int32))])) _
              refine XS.goto X0.here hx rfl (pc0 := 49) (pc' := 53) rfl (hb hby dA_49) (by decide) (by decide) ?_
              show Steps p.tables e below (s₁.setTop (mkF m 53 #[.val (.int p1)] [(.int (1 : Int32))])) _
              exact k_)
          obtain ⟨fs, hr, hrun, hended, hW, hsame⟩ := X0.leave (v := some (.int (1 : Int32))) (fun h => by rw [Bd.returns] at h; cases h)
          refine ⟨_, _, pre90 _ ?_, hrun, hended, _, _, rfl, ?_, ⟨_, rfl⟩, hW, hsame.mono (by decide) (by decide)⟩
          · exact retN X0 hx (t := .boolean) Bd.returns (by simp) (hb hby dA_53) hr
          · show QA Z p1 h0 n0 _ s₁.heap _
            rw [e0]
            exact ⟨congrArg (fun z => some (Value.int z)) (own_b1 (P := own_P p1) (by simp [own_P, c3_2, c9_47, c15_49, c21_70])), N0, rfl⟩
    · have pre91 : ∀ t, Steps p.tables e below (s₁.setTop (mkF m 53 #[.val (.int p1)] [(.int (1 : Int32))])) t → Steps p.tables e below (s₁.setTop (entryFrame m #[(.int p1)] 1)) t := fun t_ k_ => pre46 t_ (by
          refine XS.icmpYes X0.here hx rfl (pc0 := 9) (pc' := 48) rfl (hb hby dA_9) rfl (flt c9_47).2.2.2 (by decide) (by decide) ?_
          show Steps p.tables e below (s₁.setTop (mkF m 48 #[.val (.int p1)] [])) _
          refine XS.iconst X0.here hx rfl (hb hby dA_48) ?_
          show Steps p.tables e below (s₁.setTop (mkF m 49 #[.val (.int p1)] [(.int (1 : Int32))])) _
          refine XS.goto X0.here hx rfl (pc0 := 49) (pc' := 53) rfl (hb hby dA_49) (by decide) (by decide) ?_
          show Steps p.tables e below (s₁.setTop (mkF m 53 #[.val (.int p1)] [(.int (1 : Int32))])) _
          exact k_)
      obtain ⟨fs, hr, hrun, hended, hW, hsame⟩ := X0.leave (v := some (.int (1 : Int32))) (fun h => by rw [Bd.returns] at h; cases h)
      refine ⟨_, _, pre91 _ ?_, hrun, hended, _, _, rfl, ?_, ⟨_, rfl⟩, hW, hsame.mono (by decide) (by decide)⟩
      · exact retN X0 hx (t := .boolean) Bd.returns (by simp) (hb hby dA_53) hr
      · show QA Z p1 h0 n0 _ s₁.heap _
        rw [e0]
        exact ⟨congrArg (fun z => some (Value.int z)) (own_b1 (P := own_P p1) (by simp [own_P, c3_2, c9_47])), N0, rfl⟩
theorem dB_0 : decode method_2_code 0 = .ok (.iload_n 0, 1) := by decide +kernel
theorem dB_1 : decode method_2_code 1 = .ok (.bipush 32, 2) := by decide +kernel
theorem dB_3 : decode method_2_code 3 = .ok (.ior, 1) := by decide +kernel
theorem dB_4 : decode method_2_code 4 = .ok (.istore_n 1, 1) := by decide +kernel
theorem dB_5 : decode method_2_code 5 = .ok (.iload_n 1, 1) := by decide +kernel
theorem dB_6 : decode method_2_code 6 = .ok (.bipush 97, 2) := by decide +kernel
theorem dB_8 : decode method_2_code 8 = .ok (.if_icmp .lt 13, 3) := by decide +kernel
theorem dB_11 : decode method_2_code 11 = .ok (.iload_n 1, 1) := by decide +kernel
theorem dB_12 : decode method_2_code 12 = .ok (.bipush 122, 2) := by decide +kernel
theorem dB_14 : decode method_2_code 14 = .ok (.if_icmp .gt 7, 3) := by decide +kernel
theorem dB_17 : decode method_2_code 17 = .ok (.iconst 1, 1) := by decide +kernel
theorem dB_18 : decode method_2_code 18 = .ok (.goto 4, 3) := by decide +kernel
theorem dB_21 : decode method_2_code 21 = .ok (.iconst 0, 1) := by decide +kernel
theorem dB_22 : decode method_2_code 22 = .ok (.istore_n 2, 1) := by decide +kernel
theorem dB_23 : decode method_2_code 23 = .ok (.iload_n 0, 1) := by decide +kernel
theorem dB_24 : decode method_2_code 24 = .ok (.bipush 48, 2) := by decide +kernel
theorem dB_26 : decode method_2_code 26 = .ok (.isub, 1) := by decide +kernel
theorem dB_27 : decode method_2_code 27 = .ok (.istore_n 3, 1) := by decide +kernel
theorem dB_28 : decode method_2_code 28 = .ok (.iload_n 3, 1) := by decide +kernel
theorem dB_29 : decode method_2_code 29 = .ok (.ifCond .lt 13, 3) := by decide +kernel
theorem dB_32 : decode method_2_code 32 = .ok (.iload_n 3, 1) := by decide +kernel
theorem dB_33 : decode method_2_code 33 = .ok (.bipush 10, 2) := by decide +kernel
theorem dB_35 : decode method_2_code 35 = .ok (.if_icmp .ge 7, 3) := by decide +kernel
theorem dB_38 : decode method_2_code 38 = .ok (.iconst 1, 1) := by decide +kernel
theorem dB_39 : decode method_2_code 39 = .ok (.goto 4, 3) := by decide +kernel
theorem dB_42 : decode method_2_code 42 = .ok (.iconst 0, 1) := by decide +kernel
theorem dB_43 : decode method_2_code 43 = .ok (.istore 4, 2) := by decide +kernel
theorem dB_45 : decode method_2_code 45 = .ok (.iload_n 0, 1) := by decide +kernel
theorem dB_46 : decode method_2_code 46 = .ok (.bipush 95, 2) := by decide +kernel
theorem dB_48 : decode method_2_code 48 = .ok (.if_icmp .ne 7, 3) := by decide +kernel
theorem dB_51 : decode method_2_code 51 = .ok (.iconst 1, 1) := by decide +kernel
theorem dB_52 : decode method_2_code 52 = .ok (.goto 4, 3) := by decide +kernel
theorem dB_55 : decode method_2_code 55 = .ok (.iconst 0, 1) := by decide +kernel
theorem dB_56 : decode method_2_code 56 = .ok (.istore 5, 2) := by decide +kernel
theorem dB_58 : decode method_2_code 58 = .ok (.iload_n 0, 1) := by decide +kernel
theorem dB_59 : decode method_2_code 59 = .ok (.bipush 45, 2) := by decide +kernel
theorem dB_61 : decode method_2_code 61 = .ok (.if_icmp .ne 7, 3) := by decide +kernel
theorem dB_64 : decode method_2_code 64 = .ok (.iconst 1, 1) := by decide +kernel
theorem dB_65 : decode method_2_code 65 = .ok (.goto 4, 3) := by decide +kernel
theorem dB_68 : decode method_2_code 68 = .ok (.iconst 0, 1) := by decide +kernel
theorem dB_69 : decode method_2_code 69 = .ok (.istore 6, 2) := by decide +kernel
theorem dB_71 : decode method_2_code 71 = .ok (.iload_n 2, 1) := by decide +kernel
theorem dB_72 : decode method_2_code 72 = .ok (.ifCond .ne 18, 3) := by decide +kernel
theorem dB_75 : decode method_2_code 75 = .ok (.iload 4, 2) := by decide +kernel
theorem dB_77 : decode method_2_code 77 = .ok (.ifCond .ne 13, 3) := by decide +kernel
theorem dB_80 : decode method_2_code 80 = .ok (.iload 5, 2) := by decide +kernel
theorem dB_82 : decode method_2_code 82 = .ok (.ifCond .ne 8, 3) := by decide +kernel
theorem dB_85 : decode method_2_code 85 = .ok (.iload 6, 2) := by decide +kernel
theorem dB_87 : decode method_2_code 87 = .ok (.ifCond .eq 7, 3) := by decide +kernel
theorem dB_90 : decode method_2_code 90 = .ok (.iconst 1, 1) := by decide +kernel
theorem dB_91 : decode method_2_code 91 = .ok (.goto 4, 3) := by decide +kernel
theorem dB_94 : decode method_2_code 94 = .ok (.iconst 0, 1) := by decide +kernel
theorem dB_95 : decode method_2_code 95 = .ok (.ireturn, 1) := by decide +kernel
theorem pnB : plainName "com/example/convey/convey/AccountAddressIsSegmentCharacterPinLaw" = true := by first | (simp [plainName, overriddenIn]; done) | decide +kernel
theorem efB (m : MethodId) (p1 : Int32) : entryFrame m #[(.int p1)] 7 = mkF m 0 #[.val (.int p1), .unset, .unset, .unset, .unset, .unset, .unset] [] := by first | (simp [entryFrame, mkF, argsToLocals, Value.category]; done) | rfl
def QB (Z : State) (p1 : Int32) (h0 : Heap) (n0 : Nat) (v : Option Value) (h : Heap) (L : List Loc) : Prop := v = some (.int (if own_E p1 then 1 else 0)) ∧ Fr n0 L ∧ h = h0
set_option maxRecDepth 65536 in
set_option maxHeartbeats 40000000 in
theorem rmB (l : Launch) (Z : State) (a0 : Array Value) (hw : ∀ d ∈ tables_1, d.before a0 Z = true) (ws : List Jvm.Cond) (p1 : Int32) (h0 : Heap) (n0 : Nat) (Z0 : n0 ≤ h0.size) :
    MetFree l (⟨"com/example/convey/convey/AccountAddressIsSegmentCharacterPinLaw", "expected", "(C)Z"⟩ : MethodName) (head1 (Jvm.Cond.code (⟨"com/example/convey/convey/AccountAddressIsSegmentCharacterPinLaw", "expected", "(C)Z"⟩ : MethodName) method_2_code 7 (some .boolean) :: ws) ({ frames := 0, cells := 0, slots := 0, locals := 0 } : Room)) (fun a U => a = #[(.int p1)] ∧ Z.Warmed39 U.vm ∧ U.heap = h0) (fun _ _ _ _ _ => True) (fun _ U o U' => ∃ v L, o = .returned v ∧ QB Z p1 h0 n0 v U'.heap L ∧ FrameEnd U o U' L ({ frames := 0, cells := 0, slots := 0, locals := 0 } : Room).cells ({ frames := 0, cells := 0, slots := 0, locals := 0 } : Room).slots) := by
  refine MetFree.of_bodySF (plainFor_of_name pnB) hisR ?_
  intro p e s m args below meth c s₁ Bd hml0 hP hK
  obtain ⟨rfl, hZ, hh⟩ := hP
  have hx := Bd.exec
  have hby := Bd.bytes
  have hml : c.maxLocals = 7 := hml0
  have hown : s.vm.findClass "com/example/convey/convey/AccountAddressIsSegmentCharacterPinLaw" = some m.cls := findClass_of_methodNamed Bd.named
  have hnm := (name_of_methodNamed Bd.named Bd.method).1
  have X0 : Stand p l e ({ frames := 0, cells := 0, slots := 0, locals := 0 } : Room) s m #[(.int p1)] below meth c s₁ [] 0 0 := Stand.of_body Bd
  have e0 : s₁.heap = h0 := by rw [← hh, Bd.state]; rfl
  have N0 := Fr.nil n0
  have pre0 : ∀ t, Steps p.tables e below (s₁.setTop (mkF m 0 #[.val (.int p1), .unset, .unset, .unset, .unset, .unset, .unset] [])) t → Steps p.tables e below (s₁.setTop (entryFrame m #[(.int p1)] 7)) t := fun t k => castTop (efB m p1) k
  obtain ⟨v1, hv1, pre1⟩ : ∃ (v1 : Int32), (v1 = 1 ∧ own_L p1 ∨ v1 = 0 ∧ ¬ (own_L p1)) ∧ ∀ t, Steps p.tables e below (s₁.setTop (mkF m 22 #[.val (.int p1), .val (.int (p1 ||| (32 : Int32))), .unset, .unset, .unset, .unset, .unset] [(.int v1)])) t → Steps p.tables e below (s₁.setTop (entryFrame m #[(.int p1)] 7)) t := by
    have pre2 : ∀ t, Steps p.tables e below (s₁.setTop (mkF m 8 #[.val (.int p1), .val (.int (p1 ||| (32 : Int32))), .unset, .unset, .unset, .unset, .unset] [(.int (97 : Int32)), (.int (p1 ||| (32 : Int32)))])) t → Steps p.tables e below (s₁.setTop (entryFrame m #[(.int p1)] 7)) t := fun t_ k_ => pre0 t_ (by
        refine XS.iloadN X0.here hx rfl (hb hby dB_0) rfl ?_
        show Steps p.tables e below (s₁.setTop (mkF m 1 #[.val (.int p1), .unset, .unset, .unset, .unset, .unset, .unset] [(.int p1)])) _
        refine XS.bipush X0.here hx rfl (hb hby dB_1) ?_
        show Steps p.tables e below (s₁.setTop (mkF m 3 #[.val (.int p1), .unset, .unset, .unset, .unset, .unset, .unset] [(.int (32 : Int32)), (.int p1)])) _
        refine XS.ior X0.here hx rfl (hb hby dB_3) rfl ?_
        show Steps p.tables e below (s₁.setTop (mkF m 4 #[.val (.int p1), .unset, .unset, .unset, .unset, .unset, .unset] [(.int (p1 ||| (32 : Int32)))])) _
        refine XS.istoreN X0.here hx rfl (hb hby dB_4) rfl (l' := #[.val (.int p1), .val (.int (p1 ||| (32 : Int32))), .unset, .unset, .unset, .unset, .unset]) rfl ?_
        show Steps p.tables e below (s₁.setTop (mkF m 5 #[.val (.int p1), .val (.int (p1 ||| (32 : Int32))), .unset, .unset, .unset, .unset, .unset] [])) _
        refine XS.iloadN X0.here hx rfl (hb hby dB_5) rfl ?_
        show Steps p.tables e below (s₁.setTop (mkF m 6 #[.val (.int p1), .val (.int (p1 ||| (32 : Int32))), .unset, .unset, .unset, .unset, .unset] [(.int (p1 ||| (32 : Int32)))])) _
        refine XS.bipush X0.here hx rfl (hb hby dB_6) ?_
        show Steps p.tables e below (s₁.setTop (mkF m 8 #[.val (.int p1), .val (.int (p1 ||| (32 : Int32))), .unset, .unset, .unset, .unset, .unset] [(.int (97 : Int32)), (.int (p1 ||| (32 : Int32)))])) _
        exact k_)
    by_cases c8_3 : (p1 ||| (32 : Int32)) < (97 : Int32)
    · have pre4 : ∀ t, Steps p.tables e below (s₁.setTop (mkF m 22 #[.val (.int p1), .val (.int (p1 ||| (32 : Int32))), .unset, .unset, .unset, .unset, .unset] [(.int (0 : Int32))])) t → Steps p.tables e below (s₁.setTop (entryFrame m #[(.int p1)] 7)) t := fun t_ k_ => pre2 t_ (by
          refine XS.icmpYes X0.here hx rfl (pc0 := 8) (pc' := 21) rfl (hb hby dB_8) rfl (tlt c8_3).1 (by decide) (by decide) ?_
          show Steps p.tables e below (s₁.setTop (mkF m 21 #[.val (.int p1), .val (.int (p1 ||| (32 : Int32))), .unset, .unset, .unset, .unset, .unset] [])) _
          refine XS.iconst X0.here hx rfl (hb hby dB_21) ?_
          show Steps p.tables e below (s₁.setTop (mkF m 22 #[.val (.int p1), .val (.int (p1 ||| (32 : Int32))), .unset, .unset, .unset, .unset, .unset] [(.int (0 : Int32))])) _
          exact k_)
      exact ⟨(0 : Int32), Or.inr ⟨rfl, by simp [own_L, c8_3]⟩, pre4⟩
    · have pre5 : ∀ t, Steps p.tables e below (s₁.setTop (mkF m 14 #[.val (.int p1), .val (.int (p1 ||| (32 : Int32))), .unset, .unset, .unset, .unset, .unset] [(.int (122 : Int32)), (.int (p1 ||| (32 : Int32)))])) t → Steps p.tables e below (s₁.setTop (entryFrame m #[(.int p1)] 7)) t := fun t_ k_ => pre2 t_ (by
          refine XS.icmpNo X0.here hx rfl (hb hby dB_8) rfl (flt c8_3).1 ?_
          show Steps p.tables e below (s₁.setTop (mkF m 11 #[.val (.int p1), .val (.int (p1 ||| (32 : Int32))), .unset, .unset, .unset, .unset, .unset] [])) _
          refine XS.iloadN X0.here hx rfl (hb hby dB_11) rfl ?_
          show Steps p.tables e below (s₁.setTop (mkF m 12 #[.val (.int p1), .val (.int (p1 ||| (32 : Int32))), .unset, .unset, .unset, .unset, .unset] [(.int (p1 ||| (32 : Int32)))])) _
          refine XS.bipush X0.here hx rfl (hb hby dB_12) ?_
          show Steps p.tables e below (s₁.setTop (mkF m 14 #[.val (.int p1), .val (.int (p1 ||| (32 : Int32))), .unset, .unset, .unset, .unset, .unset] [(.int (122 : Int32)), (.int (p1 ||| (32 : Int32)))])) _
          exact k_)
      by_cases c14_6 : (122 : Int32) < (p1 ||| (32 : Int32))
      · have pre7 : ∀ t, Steps p.tables e below (s₁.setTop (mkF m 22 #[.val (.int p1), .val (.int (p1 ||| (32 : Int32))), .unset, .unset, .unset, .unset, .unset] [(.int (0 : Int32))])) t → Steps p.tables e below (s₁.setTop (entryFrame m #[(.int p1)] 7)) t := fun t_ k_ => pre5 t_ (by
            refine XS.icmpYes X0.here hx rfl (pc0 := 14) (pc' := 21) rfl (hb hby dB_14) rfl (tlt c14_6).2.2.1 (by decide) (by decide) ?_
            show Steps p.tables e below (s₁.setTop (mkF m 21 #[.val (.int p1), .val (.int (p1 ||| (32 : Int32))), .unset, .unset, .unset, .unset, .unset] [])) _
            refine XS.iconst X0.here hx rfl (hb hby dB_21) ?_
            show Steps p.tables e below (s₁.setTop (mkF m 22 #[.val (.int p1), .val (.int (p1 ||| (32 : Int32))), .unset, .unset, .unset, .unset, .unset] [(.int (0 : Int32))])) _
            exact k_)
        exact ⟨(0 : Int32), Or.inr ⟨rfl, by simp [own_L, c8_3, c14_6]⟩, pre7⟩
      · have pre8 : ∀ t, Steps p.tables e below (s₁.setTop (mkF m 22 #[.val (.int p1), .val (.int (p1 ||| (32 : Int32))), .unset, .unset, .unset, .unset, .unset] [(.int (1 : Int32))])) t → Steps p.tables e below (s₁.setTop (entryFrame m #[(.int p1)] 7)) t := fun t_ k_ => pre5 t_ (by
            refine XS.icmpNo X0.here hx rfl (hb hby dB_14) rfl (flt c14_6).2.2.1 ?_
            show Steps p.tables e below (s₁.setTop (mkF m 17 #[.val (.int p1), .val (.int (p1 ||| (32 : Int32))), .unset, .unset, .unset, .unset, .unset] [])) _
            refine XS.iconst X0.here hx rfl (hb hby dB_17) ?_
            show Steps p.tables e below (s₁.setTop (mkF m 18 #[.val (.int p1), .val (.int (p1 ||| (32 : Int32))), .unset, .unset, .unset, .unset, .unset] [(.int (1 : Int32))])) _
            refine XS.goto X0.here hx rfl (pc0 := 18) (pc' := 22) rfl (hb hby dB_18) (by decide) (by decide) ?_
            show Steps p.tables e below (s₁.setTop (mkF m 22 #[.val (.int p1), .val (.int (p1 ||| (32 : Int32))), .unset, .unset, .unset, .unset, .unset] [(.int (1 : Int32))])) _
            exact k_)
        exact ⟨(1 : Int32), Or.inl ⟨rfl, by simp [own_L, c8_3, c14_6]⟩, pre8⟩
  obtain ⟨v9, hv9, pre9⟩ : ∃ (v9 : Int32), (v9 = 1 ∧ own_D p1 ∨ v9 = 0 ∧ ¬ (own_D p1)) ∧ ∀ t, Steps p.tables e below (s₁.setTop (mkF m 43 #[.val (.int p1), .val (.int (p1 ||| (32 : Int32))), .val (.int v1), .val (.int (p1 - (48 : Int32))), .unset, .unset, .unset] [(.int v9)])) t → Steps p.tables e below (s₁.setTop (entryFrame m #[(.int p1)] 7)) t := by
    have pre10 : ∀ t, Steps p.tables e below (s₁.setTop (mkF m 29 #[.val (.int p1), .val (.int (p1 ||| (32 : Int32))), .val (.int v1), .val (.int (p1 - (48 : Int32))), .unset, .unset, .unset] [(.int (p1 - (48 : Int32)))])) t → Steps p.tables e below (s₁.setTop (entryFrame m #[(.int p1)] 7)) t := fun t_ k_ => pre1 t_ (by
        refine XS.istoreN X0.here hx rfl (hb hby dB_22) rfl (l' := #[.val (.int p1), .val (.int (p1 ||| (32 : Int32))), .val (.int v1), .unset, .unset, .unset, .unset]) rfl ?_
        show Steps p.tables e below (s₁.setTop (mkF m 23 #[.val (.int p1), .val (.int (p1 ||| (32 : Int32))), .val (.int v1), .unset, .unset, .unset, .unset] [])) _
        refine XS.iloadN X0.here hx rfl (hb hby dB_23) rfl ?_
        show Steps p.tables e below (s₁.setTop (mkF m 24 #[.val (.int p1), .val (.int (p1 ||| (32 : Int32))), .val (.int v1), .unset, .unset, .unset, .unset] [(.int p1)])) _
        refine XS.bipush X0.here hx rfl (hb hby dB_24) ?_
        show Steps p.tables e below (s₁.setTop (mkF m 26 #[.val (.int p1), .val (.int (p1 ||| (32 : Int32))), .val (.int v1), .unset, .unset, .unset, .unset] [(.int (48 : Int32)), (.int p1)])) _
        refine XS.isub X0.here hx rfl (hb hby dB_26) rfl ?_
        show Steps p.tables e below (s₁.setTop (mkF m 27 #[.val (.int p1), .val (.int (p1 ||| (32 : Int32))), .val (.int v1), .unset, .unset, .unset, .unset] [(.int (p1 - (48 : Int32)))])) _
        refine XS.istoreN X0.here hx rfl (hb hby dB_27) rfl (l' := #[.val (.int p1), .val (.int (p1 ||| (32 : Int32))), .val (.int v1), .val (.int (p1 - (48 : Int32))), .unset, .unset, .unset]) rfl ?_
        show Steps p.tables e below (s₁.setTop (mkF m 28 #[.val (.int p1), .val (.int (p1 ||| (32 : Int32))), .val (.int v1), .val (.int (p1 - (48 : Int32))), .unset, .unset, .unset] [])) _
        refine XS.iloadN X0.here hx rfl (hb hby dB_28) rfl ?_
        show Steps p.tables e below (s₁.setTop (mkF m 29 #[.val (.int p1), .val (.int (p1 ||| (32 : Int32))), .val (.int v1), .val (.int (p1 - (48 : Int32))), .unset, .unset, .unset] [(.int (p1 - (48 : Int32)))])) _
        exact k_)
    by_cases c29_11 : (p1 - (48 : Int32)) < (0 : Int32)
    · have pre12 : ∀ t, Steps p.tables e below (s₁.setTop (mkF m 43 #[.val (.int p1), .val (.int (p1 ||| (32 : Int32))), .val (.int v1), .val (.int (p1 - (48 : Int32))), .unset, .unset, .unset] [(.int (0 : Int32))])) t → Steps p.tables e below (s₁.setTop (entryFrame m #[(.int p1)] 7)) t := fun t_ k_ => pre10 t_ (by
          refine XS.ifYes X0.here hx rfl (pc0 := 29) (pc' := 42) rfl (hb hby dB_29) rfl ((if0 _ _).trans (tlt c29_11).1) (by decide) (by decide) ?_
          show Steps p.tables e below (s₁.setTop (mkF m 42 #[.val (.int p1), .val (.int (p1 ||| (32 : Int32))), .val (.int v1), .val (.int (p1 - (48 : Int32))), .unset, .unset, .unset] [])) _
          refine XS.iconst X0.here hx rfl (hb hby dB_42) ?_
          show Steps p.tables e below (s₁.setTop (mkF m 43 #[.val (.int p1), .val (.int (p1 ||| (32 : Int32))), .val (.int v1), .val (.int (p1 - (48 : Int32))), .unset, .unset, .unset] [(.int (0 : Int32))])) _
          exact k_)
      exact ⟨(0 : Int32), Or.inr ⟨rfl, by simp [own_D, c29_11]⟩, pre12⟩
    · have pre13 : ∀ t, Steps p.tables e below (s₁.setTop (mkF m 35 #[.val (.int p1), .val (.int (p1 ||| (32 : Int32))), .val (.int v1), .val (.int (p1 - (48 : Int32))), .unset, .unset, .unset] [(.int (10 : Int32)), (.int (p1 - (48 : Int32)))])) t → Steps p.tables e below (s₁.setTop (entryFrame m #[(.int p1)] 7)) t := fun t_ k_ => pre10 t_ (by
          refine XS.ifNo X0.here hx rfl (hb hby dB_29) rfl ((if0 _ _).trans (flt c29_11).1) ?_
          show Steps p.tables e below (s₁.setTop (mkF m 32 #[.val (.int p1), .val (.int (p1 ||| (32 : Int32))), .val (.int v1), .val (.int (p1 - (48 : Int32))), .unset, .unset, .unset] [])) _
          refine XS.iloadN X0.here hx rfl (hb hby dB_32) rfl ?_
          show Steps p.tables e below (s₁.setTop (mkF m 33 #[.val (.int p1), .val (.int (p1 ||| (32 : Int32))), .val (.int v1), .val (.int (p1 - (48 : Int32))), .unset, .unset, .unset] [(.int (p1 - (48 : Int32)))])) _
          refine XS.bipush X0.here hx rfl (hb hby dB_33) ?_
          show Steps p.tables e below (s₁.setTop (mkF m 35 #[.val (.int p1), .val (.int (p1 ||| (32 : Int32))), .val (.int v1), .val (.int (p1 - (48 : Int32))), .unset, .unset, .unset] [(.int (10 : Int32)), (.int (p1 - (48 : Int32)))])) _
          exact k_)
      by_cases c35_14 : (p1 - (48 : Int32)) < (10 : Int32)
      · have pre15 : ∀ t, Steps p.tables e below (s₁.setTop (mkF m 43 #[.val (.int p1), .val (.int (p1 ||| (32 : Int32))), .val (.int v1), .val (.int (p1 - (48 : Int32))), .unset, .unset, .unset] [(.int (1 : Int32))])) t → Steps p.tables e below (s₁.setTop (entryFrame m #[(.int p1)] 7)) t := fun t_ k_ => pre13 t_ (by
            refine XS.icmpNo X0.here hx rfl (hb hby dB_35) rfl (tlt c35_14).2.1 ?_
            show Steps p.tables e below (s₁.setTop (mkF m 38 #[.val (.int p1), .val (.int (p1 ||| (32 : Int32))), .val (.int v1), .val (.int (p1 - (48 : Int32))), .unset, .unset, .unset] [])) _
            refine XS.iconst X0.here hx rfl (hb hby dB_38) ?_
            show Steps p.tables e below (s₁.setTop (mkF m 39 #[.val (.int p1), .val (.int (p1 ||| (32 : Int32))), .val (.int v1), .val (.int (p1 - (48 : Int32))), .unset, .unset, .unset] [(.int (1 : Int32))])) _
            refine XS.goto X0.here hx rfl (pc0 := 39) (pc' := 43) rfl (hb hby dB_39) (by decide) (by decide) ?_
            show Steps p.tables e below (s₁.setTop (mkF m 43 #[.val (.int p1), .val (.int (p1 ||| (32 : Int32))), .val (.int v1), .val (.int (p1 - (48 : Int32))), .unset, .unset, .unset] [(.int (1 : Int32))])) _
            exact k_)
        exact ⟨(1 : Int32), Or.inl ⟨rfl, by simp [own_D, c29_11, c35_14]⟩, pre15⟩
      · have pre16 : ∀ t, Steps p.tables e below (s₁.setTop (mkF m 43 #[.val (.int p1), .val (.int (p1 ||| (32 : Int32))), .val (.int v1), .val (.int (p1 - (48 : Int32))), .unset, .unset, .unset] [(.int (0 : Int32))])) t → Steps p.tables e below (s₁.setTop (entryFrame m #[(.int p1)] 7)) t := fun t_ k_ => pre13 t_ (by
            refine XS.icmpYes X0.here hx rfl (pc0 := 35) (pc' := 42) rfl (hb hby dB_35) rfl (flt c35_14).2.1 (by decide) (by decide) ?_
            show Steps p.tables e below (s₁.setTop (mkF m 42 #[.val (.int p1), .val (.int (p1 ||| (32 : Int32))), .val (.int v1), .val (.int (p1 - (48 : Int32))), .unset, .unset, .unset] [])) _
            refine XS.iconst X0.here hx rfl (hb hby dB_42) ?_
            show Steps p.tables e below (s₁.setTop (mkF m 43 #[.val (.int p1), .val (.int (p1 ||| (32 : Int32))), .val (.int v1), .val (.int (p1 - (48 : Int32))), .unset, .unset, .unset] [(.int (0 : Int32))])) _
            exact k_)
        exact ⟨(0 : Int32), Or.inr ⟨rfl, by simp [own_D, c29_11, c35_14]⟩, pre16⟩
  obtain ⟨v17, hv17, pre17⟩ : ∃ (v17 : Int32), (v17 = 1 ∧ p1 = (95 : Int32) ∨ v17 = 0 ∧ ¬ (p1 = (95 : Int32))) ∧ ∀ t, Steps p.tables e below (s₁.setTop (mkF m 56 #[.val (.int p1), .val (.int (p1 ||| (32 : Int32))), .val (.int v1), .val (.int (p1 - (48 : Int32))), .val (.int v9), .unset, .unset] [(.int v17)])) t → Steps p.tables e below (s₁.setTop (entryFrame m #[(.int p1)] 7)) t := by
    have pre18 : ∀ t, Steps p.tables e below (s₁.setTop (mkF m 48 #[.val (.int p1), .val (.int (p1 ||| (32 : Int32))), .val (.int v1), .val (.int (p1 - (48 : Int32))), .val (.int v9), .unset, .unset] [(.int (95 : Int32)), (.int p1)])) t → Steps p.tables e below (s₁.setTop (entryFrame m #[(.int p1)] 7)) t := fun t_ k_ => pre9 t_ (by
        refine XS.istore X0.here hx rfl (hb hby dB_43) rfl (l' := #[.val (.int p1), .val (.int (p1 ||| (32 : Int32))), .val (.int v1), .val (.int (p1 - (48 : Int32))), .val (.int v9), .unset, .unset]) rfl ?_
        show Steps p.tables e below (s₁.setTop (mkF m 45 #[.val (.int p1), .val (.int (p1 ||| (32 : Int32))), .val (.int v1), .val (.int (p1 - (48 : Int32))), .val (.int v9), .unset, .unset] [])) _
        refine XS.iloadN X0.here hx rfl (hb hby dB_45) rfl ?_
        show Steps p.tables e below (s₁.setTop (mkF m 46 #[.val (.int p1), .val (.int (p1 ||| (32 : Int32))), .val (.int v1), .val (.int (p1 - (48 : Int32))), .val (.int v9), .unset, .unset] [(.int p1)])) _
        refine XS.bipush X0.here hx rfl (hb hby dB_46) ?_
        show Steps p.tables e below (s₁.setTop (mkF m 48 #[.val (.int p1), .val (.int (p1 ||| (32 : Int32))), .val (.int v1), .val (.int (p1 - (48 : Int32))), .val (.int v9), .unset, .unset] [(.int (95 : Int32)), (.int p1)])) _
        exact k_)
    by_cases c48_19 : p1 = (95 : Int32)
    · have pre20 : ∀ t, Steps p.tables e below (s₁.setTop (mkF m 56 #[.val (.int p1), .val (.int (p1 ||| (32 : Int32))), .val (.int v1), .val (.int (p1 - (48 : Int32))), .val (.int v9), .unset, .unset] [(.int (1 : Int32))])) t → Steps p.tables e below (s₁.setTop (entryFrame m #[(.int p1)] 7)) t := fun t_ k_ => pre18 t_ (by
          refine XS.icmpNo X0.here hx rfl (hb hby dB_48) rfl (teq c48_19).2 ?_
          show Steps p.tables e below (s₁.setTop (mkF m 51 #[.val (.int p1), .val (.int (p1 ||| (32 : Int32))), .val (.int v1), .val (.int (p1 - (48 : Int32))), .val (.int v9), .unset, .unset] [])) _
          refine XS.iconst X0.here hx rfl (hb hby dB_51) ?_
          show Steps p.tables e below (s₁.setTop (mkF m 52 #[.val (.int p1), .val (.int (p1 ||| (32 : Int32))), .val (.int v1), .val (.int (p1 - (48 : Int32))), .val (.int v9), .unset, .unset] [(.int (1 : Int32))])) _
          refine XS.goto X0.here hx rfl (pc0 := 52) (pc' := 56) rfl (hb hby dB_52) (by decide) (by decide) ?_
          show Steps p.tables e below (s₁.setTop (mkF m 56 #[.val (.int p1), .val (.int (p1 ||| (32 : Int32))), .val (.int v1), .val (.int (p1 - (48 : Int32))), .val (.int v9), .unset, .unset] [(.int (1 : Int32))])) _
          exact k_)
      exact ⟨(1 : Int32), Or.inl ⟨rfl, by simp [c48_19]⟩, pre20⟩
    · have pre21 : ∀ t, Steps p.tables e below (s₁.setTop (mkF m 56 #[.val (.int p1), .val (.int (p1 ||| (32 : Int32))), .val (.int v1), .val (.int (p1 - (48 : Int32))), .val (.int v9), .unset, .unset] [(.int (0 : Int32))])) t → Steps p.tables e below (s₁.setTop (entryFrame m #[(.int p1)] 7)) t := fun t_ k_ => pre18 t_ (by
          refine XS.icmpYes X0.here hx rfl (pc0 := 48) (pc' := 55) rfl (hb hby dB_48) rfl (feq c48_19).2 (by decide) (by decide) ?_
          show Steps p.tables e below (s₁.setTop (mkF m 55 #[.val (.int p1), .val (.int (p1 ||| (32 : Int32))), .val (.int v1), .val (.int (p1 - (48 : Int32))), .val (.int v9), .unset, .unset] [])) _
          refine XS.iconst X0.here hx rfl (hb hby dB_55) ?_
          show Steps p.tables e below (s₁.setTop (mkF m 56 #[.val (.int p1), .val (.int (p1 ||| (32 : Int32))), .val (.int v1), .val (.int (p1 - (48 : Int32))), .val (.int v9), .unset, .unset] [(.int (0 : Int32))])) _
          exact k_)
      exact ⟨(0 : Int32), Or.inr ⟨rfl, by simp [c48_19]⟩, pre21⟩
  obtain ⟨v22, hv22, pre22⟩ : ∃ (v22 : Int32), (v22 = 1 ∧ p1 = (45 : Int32) ∨ v22 = 0 ∧ ¬ (p1 = (45 : Int32))) ∧ ∀ t, Steps p.tables e below (s₁.setTop (mkF m 69 #[.val (.int p1), .val (.int (p1 ||| (32 : Int32))), .val (.int v1), .val (.int (p1 - (48 : Int32))), .val (.int v9), .val (.int v17), .unset] [(.int v22)])) t → Steps p.tables e below (s₁.setTop (entryFrame m #[(.int p1)] 7)) t := by
    have pre23 : ∀ t, Steps p.tables e below (s₁.setTop (mkF m 61 #[.val (.int p1), .val (.int (p1 ||| (32 : Int32))), .val (.int v1), .val (.int (p1 - (48 : Int32))), .val (.int v9), .val (.int v17), .unset] [(.int (45 : Int32)), (.int p1)])) t → Steps p.tables e below (s₁.setTop (entryFrame m #[(.int p1)] 7)) t := fun t_ k_ => pre17 t_ (by
        refine XS.istore X0.here hx rfl (hb hby dB_56) rfl (l' := #[.val (.int p1), .val (.int (p1 ||| (32 : Int32))), .val (.int v1), .val (.int (p1 - (48 : Int32))), .val (.int v9), .val (.int v17), .unset]) rfl ?_
        show Steps p.tables e below (s₁.setTop (mkF m 58 #[.val (.int p1), .val (.int (p1 ||| (32 : Int32))), .val (.int v1), .val (.int (p1 - (48 : Int32))), .val (.int v9), .val (.int v17), .unset] [])) _
        refine XS.iloadN X0.here hx rfl (hb hby dB_58) rfl ?_
        show Steps p.tables e below (s₁.setTop (mkF m 59 #[.val (.int p1), .val (.int (p1 ||| (32 : Int32))), .val (.int v1), .val (.int (p1 - (48 : Int32))), .val (.int v9), .val (.int v17), .unset] [(.int p1)])) _
        refine XS.bipush X0.here hx rfl (hb hby dB_59) ?_
        show Steps p.tables e below (s₁.setTop (mkF m 61 #[.val (.int p1), .val (.int (p1 ||| (32 : Int32))), .val (.int v1), .val (.int (p1 - (48 : Int32))), .val (.int v9), .val (.int v17), .unset] [(.int (45 : Int32)), (.int p1)])) _
        exact k_)
    by_cases c61_24 : p1 = (45 : Int32)
    · have pre25 : ∀ t, Steps p.tables e below (s₁.setTop (mkF m 69 #[.val (.int p1), .val (.int (p1 ||| (32 : Int32))), .val (.int v1), .val (.int (p1 - (48 : Int32))), .val (.int v9), .val (.int v17), .unset] [(.int (1 : Int32))])) t → Steps p.tables e below (s₁.setTop (entryFrame m #[(.int p1)] 7)) t := fun t_ k_ => pre23 t_ (by
          refine XS.icmpNo X0.here hx rfl (hb hby dB_61) rfl (teq c61_24).2 ?_
          show Steps p.tables e below (s₁.setTop (mkF m 64 #[.val (.int p1), .val (.int (p1 ||| (32 : Int32))), .val (.int v1), .val (.int (p1 - (48 : Int32))), .val (.int v9), .val (.int v17), .unset] [])) _
          refine XS.iconst X0.here hx rfl (hb hby dB_64) ?_
          show Steps p.tables e below (s₁.setTop (mkF m 65 #[.val (.int p1), .val (.int (p1 ||| (32 : Int32))), .val (.int v1), .val (.int (p1 - (48 : Int32))), .val (.int v9), .val (.int v17), .unset] [(.int (1 : Int32))])) _
          refine XS.goto X0.here hx rfl (pc0 := 65) (pc' := 69) rfl (hb hby dB_65) (by decide) (by decide) ?_
          show Steps p.tables e below (s₁.setTop (mkF m 69 #[.val (.int p1), .val (.int (p1 ||| (32 : Int32))), .val (.int v1), .val (.int (p1 - (48 : Int32))), .val (.int v9), .val (.int v17), .unset] [(.int (1 : Int32))])) _
          exact k_)
      exact ⟨(1 : Int32), Or.inl ⟨rfl, by simp [c61_24]⟩, pre25⟩
    · have pre26 : ∀ t, Steps p.tables e below (s₁.setTop (mkF m 69 #[.val (.int p1), .val (.int (p1 ||| (32 : Int32))), .val (.int v1), .val (.int (p1 - (48 : Int32))), .val (.int v9), .val (.int v17), .unset] [(.int (0 : Int32))])) t → Steps p.tables e below (s₁.setTop (entryFrame m #[(.int p1)] 7)) t := fun t_ k_ => pre23 t_ (by
          refine XS.icmpYes X0.here hx rfl (pc0 := 61) (pc' := 68) rfl (hb hby dB_61) rfl (feq c61_24).2 (by decide) (by decide) ?_
          show Steps p.tables e below (s₁.setTop (mkF m 68 #[.val (.int p1), .val (.int (p1 ||| (32 : Int32))), .val (.int v1), .val (.int (p1 - (48 : Int32))), .val (.int v9), .val (.int v17), .unset] [])) _
          refine XS.iconst X0.here hx rfl (hb hby dB_68) ?_
          show Steps p.tables e below (s₁.setTop (mkF m 69 #[.val (.int p1), .val (.int (p1 ||| (32 : Int32))), .val (.int v1), .val (.int (p1 - (48 : Int32))), .val (.int v9), .val (.int v17), .unset] [(.int (0 : Int32))])) _
          exact k_)
      exact ⟨(0 : Int32), Or.inr ⟨rfl, by simp [c61_24]⟩, pre26⟩
  have pre27 : ∀ t, Steps p.tables e below (s₁.setTop (mkF m 72 #[.val (.int p1), .val (.int (p1 ||| (32 : Int32))), .val (.int v1), .val (.int (p1 - (48 : Int32))), .val (.int v9), .val (.int v17), .val (.int v22)] [(.int v1)])) t → Steps p.tables e below (s₁.setTop (entryFrame m #[(.int p1)] 7)) t := fun t_ k_ => pre22 t_ (by
      refine XS.istore X0.here hx rfl (hb hby dB_69) rfl (l' := #[.val (.int p1), .val (.int (p1 ||| (32 : Int32))), .val (.int v1), .val (.int (p1 - (48 : Int32))), .val (.int v9), .val (.int v17), .val (.int v22)]) rfl ?_
      show Steps p.tables e below (s₁.setTop (mkF m 71 #[.val (.int p1), .val (.int (p1 ||| (32 : Int32))), .val (.int v1), .val (.int (p1 - (48 : Int32))), .val (.int v9), .val (.int v17), .val (.int v22)] [])) _
      refine XS.iloadN X0.here hx rfl (hb hby dB_71) rfl ?_
      show Steps p.tables e below (s₁.setTop (mkF m 72 #[.val (.int p1), .val (.int (p1 ||| (32 : Int32))), .val (.int v1), .val (.int (p1 - (48 : Int32))), .val (.int v9), .val (.int v17), .val (.int v22)] [(.int v1)])) _
      exact k_)
  by_cases c72_28 : v1 = (0 : Int32)
  · have pre29 : ∀ t, Steps p.tables e below (s₁.setTop (mkF m 77 #[.val (.int p1), .val (.int (p1 ||| (32 : Int32))), .val (.int v1), .val (.int (p1 - (48 : Int32))), .val (.int v9), .val (.int v17), .val (.int v22)] [(.int v9)])) t → Steps p.tables e below (s₁.setTop (entryFrame m #[(.int p1)] 7)) t := fun t_ k_ => pre27 t_ (by
        refine XS.ifNo X0.here hx rfl (hb hby dB_72) rfl ((if0 _ _).trans (teq c72_28).2) ?_
        show Steps p.tables e below (s₁.setTop (mkF m 75 #[.val (.int p1), .val (.int (p1 ||| (32 : Int32))), .val (.int v1), .val (.int (p1 - (48 : Int32))), .val (.int v9), .val (.int v17), .val (.int v22)] [])) _
        refine XS.iload X0.here hx rfl (hb hby dB_75) rfl ?_
        show Steps p.tables e below (s₁.setTop (mkF m 77 #[.val (.int p1), .val (.int (p1 ||| (32 : Int32))), .val (.int v1), .val (.int (p1 - (48 : Int32))), .val (.int v9), .val (.int v17), .val (.int v22)] [(.int v9)])) _
        exact k_)
    by_cases c77_30 : v9 = (0 : Int32)
    · have pre31 : ∀ t, Steps p.tables e below (s₁.setTop (mkF m 82 #[.val (.int p1), .val (.int (p1 ||| (32 : Int32))), .val (.int v1), .val (.int (p1 - (48 : Int32))), .val (.int v9), .val (.int v17), .val (.int v22)] [(.int v17)])) t → Steps p.tables e below (s₁.setTop (entryFrame m #[(.int p1)] 7)) t := fun t_ k_ => pre29 t_ (by
          refine XS.ifNo X0.here hx rfl (hb hby dB_77) rfl ((if0 _ _).trans (teq c77_30).2) ?_
          show Steps p.tables e below (s₁.setTop (mkF m 80 #[.val (.int p1), .val (.int (p1 ||| (32 : Int32))), .val (.int v1), .val (.int (p1 - (48 : Int32))), .val (.int v9), .val (.int v17), .val (.int v22)] [])) _
          refine XS.iload X0.here hx rfl (hb hby dB_80) rfl ?_
          show Steps p.tables e below (s₁.setTop (mkF m 82 #[.val (.int p1), .val (.int (p1 ||| (32 : Int32))), .val (.int v1), .val (.int (p1 - (48 : Int32))), .val (.int v9), .val (.int v17), .val (.int v22)] [(.int v17)])) _
          exact k_)
      by_cases c82_32 : v17 = (0 : Int32)
      · have pre33 : ∀ t, Steps p.tables e below (s₁.setTop (mkF m 87 #[.val (.int p1), .val (.int (p1 ||| (32 : Int32))), .val (.int v1), .val (.int (p1 - (48 : Int32))), .val (.int v9), .val (.int v17), .val (.int v22)] [(.int v22)])) t → Steps p.tables e below (s₁.setTop (entryFrame m #[(.int p1)] 7)) t := fun t_ k_ => pre31 t_ (by
            refine XS.ifNo X0.here hx rfl (hb hby dB_82) rfl ((if0 _ _).trans (teq c82_32).2) ?_
            show Steps p.tables e below (s₁.setTop (mkF m 85 #[.val (.int p1), .val (.int (p1 ||| (32 : Int32))), .val (.int v1), .val (.int (p1 - (48 : Int32))), .val (.int v9), .val (.int v17), .val (.int v22)] [])) _
            refine XS.iload X0.here hx rfl (hb hby dB_85) rfl ?_
            show Steps p.tables e below (s₁.setTop (mkF m 87 #[.val (.int p1), .val (.int (p1 ||| (32 : Int32))), .val (.int v1), .val (.int (p1 - (48 : Int32))), .val (.int v9), .val (.int v17), .val (.int v22)] [(.int v22)])) _
            exact k_)
        by_cases c87_34 : v22 = (0 : Int32)
        · have pre35 : ∀ t, Steps p.tables e below (s₁.setTop (mkF m 95 #[.val (.int p1), .val (.int (p1 ||| (32 : Int32))), .val (.int v1), .val (.int (p1 - (48 : Int32))), .val (.int v9), .val (.int v17), .val (.int v22)] [(.int (0 : Int32))])) t → Steps p.tables e below (s₁.setTop (entryFrame m #[(.int p1)] 7)) t := fun t_ k_ => pre33 t_ (by
              refine XS.ifYes X0.here hx rfl (pc0 := 87) (pc' := 94) rfl (hb hby dB_87) rfl ((if0 _ _).trans (teq c87_34).1) (by decide) (by decide) ?_
              show Steps p.tables e below (s₁.setTop (mkF m 94 #[.val (.int p1), .val (.int (p1 ||| (32 : Int32))), .val (.int v1), .val (.int (p1 - (48 : Int32))), .val (.int v9), .val (.int v17), .val (.int v22)] [])) _
              refine XS.iconst X0.here hx rfl (hb hby dB_94) ?_
              show Steps p.tables e below (s₁.setTop (mkF m 95 #[.val (.int p1), .val (.int (p1 ||| (32 : Int32))), .val (.int v1), .val (.int (p1 - (48 : Int32))), .val (.int v9), .val (.int v17), .val (.int v22)] [(.int (0 : Int32))])) _
              exact k_)
          obtain ⟨fs, hr, hrun, hended, hW, hsame⟩ := X0.leave (v := some (.int (0 : Int32))) (fun h => by rw [Bd.returns] at h; cases h)
          refine ⟨_, _, pre35 _ ?_, hrun, hended, _, _, rfl, ?_, ⟨_, rfl⟩, hW, hsame.mono (by decide) (by decide)⟩
          · exact retN X0 hx (t := .boolean) Bd.returns (by simp) (hb hby dB_95) hr
          · show QB Z p1 h0 n0 _ s₁.heap _
            rw [e0]
            exact ⟨congrArg (fun z => some (Value.int z)) (own_b0 (P := own_E p1) (fun z => by
              rcases z with z | z | z | z
              · exact (hv1.resolve_left (fun q => absurd (q.1.symm.trans c72_28) (by decide))).2 z
              · exact (hv9.resolve_left (fun q => absurd (q.1.symm.trans c77_30) (by decide))).2 z
              · exact (hv17.resolve_left (fun q => absurd (q.1.symm.trans c82_32) (by decide))).2 z
              · exact (hv22.resolve_left (fun q => absurd (q.1.symm.trans c87_34) (by decide))).2 z)), N0, rfl⟩
        · have pre36 : ∀ t, Steps p.tables e below (s₁.setTop (mkF m 95 #[.val (.int p1), .val (.int (p1 ||| (32 : Int32))), .val (.int v1), .val (.int (p1 - (48 : Int32))), .val (.int v9), .val (.int v17), .val (.int v22)] [(.int (1 : Int32))])) t → Steps p.tables e below (s₁.setTop (entryFrame m #[(.int p1)] 7)) t := fun t_ k_ => pre33 t_ (by
              refine XS.ifNo X0.here hx rfl (hb hby dB_87) rfl ((if0 _ _).trans (feq c87_34).1) ?_
              show Steps p.tables e below (s₁.setTop (mkF m 90 #[.val (.int p1), .val (.int (p1 ||| (32 : Int32))), .val (.int v1), .val (.int (p1 - (48 : Int32))), .val (.int v9), .val (.int v17), .val (.int v22)] [])) _
              refine XS.iconst X0.here hx rfl (hb hby dB_90) ?_
              show Steps p.tables e below (s₁.setTop (mkF m 91 #[.val (.int p1), .val (.int (p1 ||| (32 : Int32))), .val (.int v1), .val (.int (p1 - (48 : Int32))), .val (.int v9), .val (.int v17), .val (.int v22)] [(.int (1 : Int32))])) _
              refine XS.goto X0.here hx rfl (pc0 := 91) (pc' := 95) rfl (hb hby dB_91) (by decide) (by decide) ?_
              show Steps p.tables e below (s₁.setTop (mkF m 95 #[.val (.int p1), .val (.int (p1 ||| (32 : Int32))), .val (.int v1), .val (.int (p1 - (48 : Int32))), .val (.int v9), .val (.int v17), .val (.int v22)] [(.int (1 : Int32))])) _
              exact k_)
          obtain ⟨fs, hr, hrun, hended, hW, hsame⟩ := X0.leave (v := some (.int (1 : Int32))) (fun h => by rw [Bd.returns] at h; cases h)
          refine ⟨_, _, pre36 _ ?_, hrun, hended, _, _, rfl, ?_, ⟨_, rfl⟩, hW, hsame.mono (by decide) (by decide)⟩
          · exact retN X0 hx (t := .boolean) Bd.returns (by simp) (hb hby dB_95) hr
          · show QB Z p1 h0 n0 _ s₁.heap _
            rw [e0]
            exact ⟨congrArg (fun z => some (Value.int z)) (own_b1 (P := own_E p1) (Or.inr (Or.inr (Or.inr ((hv22.resolve_right (fun q => c87_34 q.1)).2))))), N0, rfl⟩
      · have pre37 : ∀ t, Steps p.tables e below (s₁.setTop (mkF m 95 #[.val (.int p1), .val (.int (p1 ||| (32 : Int32))), .val (.int v1), .val (.int (p1 - (48 : Int32))), .val (.int v9), .val (.int v17), .val (.int v22)] [(.int (1 : Int32))])) t → Steps p.tables e below (s₁.setTop (entryFrame m #[(.int p1)] 7)) t := fun t_ k_ => pre31 t_ (by
            refine XS.ifYes X0.here hx rfl (pc0 := 82) (pc' := 90) rfl (hb hby dB_82) rfl ((if0 _ _).trans (feq c82_32).2) (by decide) (by decide) ?_
            show Steps p.tables e below (s₁.setTop (mkF m 90 #[.val (.int p1), .val (.int (p1 ||| (32 : Int32))), .val (.int v1), .val (.int (p1 - (48 : Int32))), .val (.int v9), .val (.int v17), .val (.int v22)] [])) _
            refine XS.iconst X0.here hx rfl (hb hby dB_90) ?_
            show Steps p.tables e below (s₁.setTop (mkF m 91 #[.val (.int p1), .val (.int (p1 ||| (32 : Int32))), .val (.int v1), .val (.int (p1 - (48 : Int32))), .val (.int v9), .val (.int v17), .val (.int v22)] [(.int (1 : Int32))])) _
            refine XS.goto X0.here hx rfl (pc0 := 91) (pc' := 95) rfl (hb hby dB_91) (by decide) (by decide) ?_
            show Steps p.tables e below (s₁.setTop (mkF m 95 #[.val (.int p1), .val (.int (p1 ||| (32 : Int32))), .val (.int v1), .val (.int (p1 - (48 : Int32))), .val (.int v9), .val (.int v17), .val (.int v22)] [(.int (1 : Int32))])) _
            exact k_)
        obtain ⟨fs, hr, hrun, hended, hW, hsame⟩ := X0.leave (v := some (.int (1 : Int32))) (fun h => by rw [Bd.returns] at h; cases h)
        refine ⟨_, _, pre37 _ ?_, hrun, hended, _, _, rfl, ?_, ⟨_, rfl⟩, hW, hsame.mono (by decide) (by decide)⟩
        · exact retN X0 hx (t := .boolean) Bd.returns (by simp) (hb hby dB_95) hr
        · show QB Z p1 h0 n0 _ s₁.heap _
          rw [e0]
          exact ⟨congrArg (fun z => some (Value.int z)) (own_b1 (P := own_E p1) (Or.inr (Or.inr (Or.inl (hv17.resolve_right (fun q => c82_32 q.1)).2)))), N0, rfl⟩
    · have pre38 : ∀ t, Steps p.tables e below (s₁.setTop (mkF m 95 #[.val (.int p1), .val (.int (p1 ||| (32 : Int32))), .val (.int v1), .val (.int (p1 - (48 : Int32))), .val (.int v9), .val (.int v17), .val (.int v22)] [(.int (1 : Int32))])) t → Steps p.tables e below (s₁.setTop (entryFrame m #[(.int p1)] 7)) t := fun t_ k_ => pre29 t_ (by
          refine XS.ifYes X0.here hx rfl (pc0 := 77) (pc' := 90) rfl (hb hby dB_77) rfl ((if0 _ _).trans (feq c77_30).2) (by decide) (by decide) ?_
          show Steps p.tables e below (s₁.setTop (mkF m 90 #[.val (.int p1), .val (.int (p1 ||| (32 : Int32))), .val (.int v1), .val (.int (p1 - (48 : Int32))), .val (.int v9), .val (.int v17), .val (.int v22)] [])) _
          refine XS.iconst X0.here hx rfl (hb hby dB_90) ?_
          show Steps p.tables e below (s₁.setTop (mkF m 91 #[.val (.int p1), .val (.int (p1 ||| (32 : Int32))), .val (.int v1), .val (.int (p1 - (48 : Int32))), .val (.int v9), .val (.int v17), .val (.int v22)] [(.int (1 : Int32))])) _
          refine XS.goto X0.here hx rfl (pc0 := 91) (pc' := 95) rfl (hb hby dB_91) (by decide) (by decide) ?_
          show Steps p.tables e below (s₁.setTop (mkF m 95 #[.val (.int p1), .val (.int (p1 ||| (32 : Int32))), .val (.int v1), .val (.int (p1 - (48 : Int32))), .val (.int v9), .val (.int v17), .val (.int v22)] [(.int (1 : Int32))])) _
          exact k_)
      obtain ⟨fs, hr, hrun, hended, hW, hsame⟩ := X0.leave (v := some (.int (1 : Int32))) (fun h => by rw [Bd.returns] at h; cases h)
      refine ⟨_, _, pre38 _ ?_, hrun, hended, _, _, rfl, ?_, ⟨_, rfl⟩, hW, hsame.mono (by decide) (by decide)⟩
      · exact retN X0 hx (t := .boolean) Bd.returns (by simp) (hb hby dB_95) hr
      · show QB Z p1 h0 n0 _ s₁.heap _
        rw [e0]
        exact ⟨congrArg (fun z => some (Value.int z)) (own_b1 (P := own_E p1) (Or.inr (Or.inl (hv9.resolve_right (fun q => c77_30 q.1)).2))), N0, rfl⟩
  · have pre39 : ∀ t, Steps p.tables e below (s₁.setTop (mkF m 95 #[.val (.int p1), .val (.int (p1 ||| (32 : Int32))), .val (.int v1), .val (.int (p1 - (48 : Int32))), .val (.int v9), .val (.int v17), .val (.int v22)] [(.int (1 : Int32))])) t → Steps p.tables e below (s₁.setTop (entryFrame m #[(.int p1)] 7)) t := fun t_ k_ => pre27 t_ (by
        refine XS.ifYes X0.here hx rfl (pc0 := 72) (pc' := 90) rfl (hb hby dB_72) rfl ((if0 _ _).trans (feq c72_28).2) (by decide) (by decide) ?_
        show Steps p.tables e below (s₁.setTop (mkF m 90 #[.val (.int p1), .val (.int (p1 ||| (32 : Int32))), .val (.int v1), .val (.int (p1 - (48 : Int32))), .val (.int v9), .val (.int v17), .val (.int v22)] [])) _
        refine XS.iconst X0.here hx rfl (hb hby dB_90) ?_
        show Steps p.tables e below (s₁.setTop (mkF m 91 #[.val (.int p1), .val (.int (p1 ||| (32 : Int32))), .val (.int v1), .val (.int (p1 - (48 : Int32))), .val (.int v9), .val (.int v17), .val (.int v22)] [(.int (1 : Int32))])) _
        refine XS.goto X0.here hx rfl (pc0 := 91) (pc' := 95) rfl (hb hby dB_91) (by decide) (by decide) ?_
        show Steps p.tables e below (s₁.setTop (mkF m 95 #[.val (.int p1), .val (.int (p1 ||| (32 : Int32))), .val (.int v1), .val (.int (p1 - (48 : Int32))), .val (.int v9), .val (.int v17), .val (.int v22)] [(.int (1 : Int32))])) _
        exact k_)
    obtain ⟨fs, hr, hrun, hended, hW, hsame⟩ := X0.leave (v := some (.int (1 : Int32))) (fun h => by rw [Bd.returns] at h; cases h)
    refine ⟨_, _, pre39 _ ?_, hrun, hended, _, _, rfl, ?_, ⟨_, rfl⟩, hW, hsame.mono (by decide) (by decide)⟩
    · exact retN X0 hx (t := .boolean) Bd.returns (by simp) (hb hby dB_95) hr
    · show QB Z p1 h0 n0 _ s₁.heap _
      rw [e0]
      exact ⟨congrArg (fun z => some (Value.int z)) (own_b1 (P := own_E p1) (Or.inl (hv1.resolve_right (fun q => c72_28 q.1)).2)), N0, rfl⟩
theorem pd0_0 : parseMethodDescriptor "(C)Z" = some ⟨[.char], some .boolean⟩ := by decide +kernel
theorem pn0 : plainName "com/example/convey/convey/AccountAddressIsSegmentCharacterPinLaw" = true := by first | (simp [plainName, overriddenIn]; done) | decide +kernel
theorem ef0 (m : MethodId) (p0 : Int32) : entryFrame m #[(.int p0)] maxLocals = mkF m 0 #[.val (.int p0), .unset] [] := by first | (simp [entryFrame, mkF, argsToLocals, Value.category, maxLocals]; done) | rfl
def Q0 (Z : State) (p0 : Int32) (h0 : Heap) (n0 : Nat) (v : Option Value) (h : Heap) (L : List Loc) : Prop := v = some (.int 1) ∧ Fr n0 L
set_option maxRecDepth 65536 in
set_option maxHeartbeats 40000000 in
theorem rm0 (l : Launch) (Z : State) (a0 : Array Value) (hw : ∀ d ∈ tables_1, d.before a0 Z = true) (ws : List Jvm.Cond) (p0 : Int32) (h0 : Heap) (n0 : Nat) (Z0 : n0 ≤ h0.size) :
    MetFree l x (head1 (Jvm.Cond.code x code maxLocals ret :: ws) room_1) (fun a U => a = #[(.int p0)] ∧ Z.Warmed39 U.vm ∧ U.heap = h0) (fun _ _ _ _ _ => True) (fun _ U o U' => ∃ v L, o = .returned v ∧ Q0 Z p0 h0 n0 v U'.heap L ∧ FrameEnd U o U' L room_1.cells room_1.slots) := by
  refine MetFree.of_bodySF (plainFor_of_name pn0) hisR ?_
  intro p e s m args below meth c s₁ Bd hml0 hP hK
  obtain ⟨rfl, hZ, hh⟩ := hP
  have hx := Bd.exec
  have hby := Bd.bytes
  have hml : c.maxLocals = 2 := hml0
  have hown : s.vm.findClass "com/example/convey/convey/AccountAddressIsSegmentCharacterPinLaw" = some m.cls := findClass_of_methodNamed Bd.named
  have hnm := (name_of_methodNamed Bd.named Bd.method).1
  have X0 : Stand p l e room_1 s m #[(.int p0)] below meth c s₁ [] 0 0 := Stand.of_body Bd
  have e0 : s₁.heap = h0 := by rw [← hh, Bd.state]; rfl
  have N0 := Fr.nil n0
  have pre0 : ∀ t, Steps p.tables e below (s₁.setTop (mkF m 0 #[.val (.int p0), .unset] [])) t → Steps p.tables e below (s₁.setTop (entryFrame m #[(.int p0)] maxLocals)) t := fun t k => castTop (ef0 m p0) k
  obtain ⟨_, _, ⟨T1, L1, k1, n1⟩, -, X1, ⟨Lc1, hQ1, l1, y1, z1⟩, st1⟩ := Jvm.LawKit.callS X0 hx (y := (⟨"com/example/convey/convey/AccountAddress", "isSegmentCharacter", "(C)Z"⟩ : MethodName)) hown (mvT hZ (hw _ (List.mem_of_getElem? (i := 0) rfl))) (mvT hZ (hw _ (List.mem_of_getElem? (i := 1) rfl))) (mvT hZ (hw _ (List.mem_of_getElem? (i := 2) rfl))) (mvT hZ (hw _ (List.mem_of_getElem? (i := 3) rfl))) (by decide) (backOf (W := 0) (rmA l Z a0 hw [] (p0.toUInt32.toUInt16.toUInt32.toInt32)  h0 n0 Z0) hZ (hw _ (List.mem_of_getElem? (i := 3) rfl)) (hw _ (List.mem_of_getElem? (i := 2) rfl)) (by decide) (by decide)) (g := (mkF m 4 #[.val (.int p0), .val (.int (p0.toUInt32.toUInt16.toUInt32.toInt32))] [(.int (p0.toUInt32.toUInt16.toUInt32.toInt32))])) rfl (by rw [hml]; rfl) (argsL := [(.int (p0.toUInt32.toUInt16.toUInt32.toInt32))]) (rest := []) (lenOf pd0_0 rfl) rfl (by show 2 * 0 + _ ≤ _; exact Nat.le_of_eq rfl) (hb hby at_4) (fun _ _ => ⟨rfl, e0, (by decide : 0 + 0 ≤ _), (by decide : 0 + 0 ≤ _)⟩)
  dsimp only [Pt.U, Pt.locs, Pt.cells, Pt.slots] at X1 l1 y1 z1 st1 hQ1
  subst l1 y1 z1
  obtain ⟨rfl, N1q, e1⟩ := hQ1
  have N1 := Fr.app N0 N1q
  obtain ⟨_, _, ⟨T2, L2, k2, n2⟩, -, X2, ⟨Lc2, hQ2, l2, y2, z2⟩, st2⟩ := Jvm.LawKit.callS X1 hx (y := (⟨"com/example/convey/convey/AccountAddressIsSegmentCharacterPinLaw", "expected", "(C)Z"⟩ : MethodName)) hown (mvT hZ (hw _ (List.mem_of_getElem? (i := 4) rfl))) (mvT hZ (hw _ (List.mem_of_getElem? (i := 5) rfl))) (mvT hZ (hw _ (List.mem_of_getElem? (i := 6) rfl))) (mvT hZ (hw _ (List.mem_of_getElem? (i := 7) rfl))) (by decide) (backOf (W := 1) (rmB l Z a0 hw [] (p0.toUInt32.toUInt16.toUInt32.toInt32)  h0 n0 Z0) hZ (hw _ (List.mem_of_getElem? (i := 7) rfl)) (hw _ (List.mem_of_getElem? (i := 6) rfl)) (by decide) (by decide)) (g := (mkF m 8 #[.val (.int p0), .val (.int (p0.toUInt32.toUInt16.toUInt32.toInt32))] [(.int (p0.toUInt32.toUInt16.toUInt32.toInt32)), (.int (if own_P (p0.toUInt32.toUInt16.toUInt32.toInt32) then 1 else 0 : Int32))])) rfl (by rw [hml]; rfl) (argsL := [(.int (p0.toUInt32.toUInt16.toUInt32.toInt32))]) (rest := [(.int (if own_P (p0.toUInt32.toUInt16.toUInt32.toInt32) then 1 else 0 : Int32))]) (lenOf pd0_0 rfl) rfl (by show 2 * 0 + _ ≤ _; exact Nat.le_of_eq rfl) (hb hby at_8) (fun _ _ => ⟨rfl, e1, (by decide : 0 + 0 ≤ _), (by decide : 0 + 0 ≤ _)⟩)
  dsimp only [Pt.U, Pt.locs, Pt.cells, Pt.slots] at X2 l2 y2 z2 st2 hQ2
  subst l2 y2 z2
  obtain ⟨rfl, N2q, e2⟩ := hQ2
  have N2 := Fr.app N1 N2q
  have pre3 : ∀ t, Steps p.tables e below (T2.setTop (mkF m 19 #[.val (.int p0), .val (.int (p0.toUInt32.toUInt16.toUInt32.toInt32))] [(.int (1 : Int32))])) t → Steps p.tables e below (s₁.setTop (entryFrame m #[(.int p0)] maxLocals)) t := fun t_ k_ => pre0 t_ (by
      refine XS.iloadN X0.here hx rfl (hb hby at_0) rfl ?_
      show Steps p.tables e below (s₁.setTop (mkF m 1 #[.val (.int p0), .unset] [(.int p0)])) _
      refine XS.i2c X0.here hx rfl (hb hby at_1) rfl ?_
      show Steps p.tables e below (s₁.setTop (mkF m 2 #[.val (.int p0), .unset] [(.int (p0.toUInt32.toUInt16.toUInt32.toInt32))])) _
      refine XS.istoreN X0.here hx rfl (hb hby at_2) rfl (l' := #[.val (.int p0), .val (.int (p0.toUInt32.toUInt16.toUInt32.toInt32))]) rfl ?_
      show Steps p.tables e below (s₁.setTop (mkF m 3 #[.val (.int p0), .val (.int (p0.toUInt32.toUInt16.toUInt32.toInt32))] [])) _
      refine XS.iloadN X0.here hx rfl (hb hby at_3) rfl ?_
      show Steps p.tables e below (s₁.setTop (mkF m 4 #[.val (.int p0), .val (.int (p0.toUInt32.toUInt16.toUInt32.toInt32))] [(.int (p0.toUInt32.toUInt16.toUInt32.toInt32))])) _
      refine st1 _ ?_
      show Steps p.tables e below (T1.setTop (mkF m 7 #[.val (.int p0), .val (.int (p0.toUInt32.toUInt16.toUInt32.toInt32))] [(.int (if own_P (p0.toUInt32.toUInt16.toUInt32.toInt32) then 1 else 0 : Int32))])) _
      refine XS.iloadN X1.here hx rfl (hb hby at_7) rfl ?_
      show Steps p.tables e below (T1.setTop (mkF m 8 #[.val (.int p0), .val (.int (p0.toUInt32.toUInt16.toUInt32.toInt32))] [(.int (p0.toUInt32.toUInt16.toUInt32.toInt32)), (.int (if own_P (p0.toUInt32.toUInt16.toUInt32.toInt32) then 1 else 0 : Int32))])) _
      refine st2 _ ?_
      show Steps p.tables e below (T2.setTop (mkF m 11 #[.val (.int p0), .val (.int (p0.toUInt32.toUInt16.toUInt32.toInt32))] [(.int (if own_E (p0.toUInt32.toUInt16.toUInt32.toInt32) then 1 else 0 : Int32)), (.int (if own_P (p0.toUInt32.toUInt16.toUInt32.toInt32) then 1 else 0 : Int32))])) _
      refine XS.icmpNo X2.here hx rfl (hb hby at_11) rfl (teq (by simp only [own_same] : (if own_P (p0.toUInt32.toUInt16.toUInt32.toInt32) then 1 else 0 : Int32) = (if own_E (p0.toUInt32.toUInt16.toUInt32.toInt32) then 1 else 0 : Int32))).2 ?_
      show Steps p.tables e below (T2.setTop (mkF m 14 #[.val (.int p0), .val (.int (p0.toUInt32.toUInt16.toUInt32.toInt32))] [])) _
      refine XS.iconst X2.here hx rfl (hb hby at_14) ?_
      show Steps p.tables e below (T2.setTop (mkF m 15 #[.val (.int p0), .val (.int (p0.toUInt32.toUInt16.toUInt32.toInt32))] [(.int (1 : Int32))])) _
      refine XS.goto X2.here hx rfl (pc0 := 15) (pc' := 19) rfl (hb hby at_15) (by decide) (by decide) ?_
      show Steps p.tables e below (T2.setTop (mkF m 19 #[.val (.int p0), .val (.int (p0.toUInt32.toUInt16.toUInt32.toInt32))] [(.int (1 : Int32))])) _
      exact k_)
  obtain ⟨fs, hr, hrun, hended, hW, hsame⟩ := X2.leave (v := some (.int (1 : Int32))) (fun h => by rw [Bd.returns] at h; cases h)
  refine ⟨_, _, pre3 _ ?_, hrun, hended, _, _, rfl, ?_, ⟨_, rfl⟩, hW, hsame.mono (by decide) (by decide)⟩
  · exact retN X2 hx (t := .boolean) Bd.returns (by simp) (hb hby at_19) hr
  · show Q0 Z p0 h0 n0 _ T2.heap _
    rw [e2]
    exact ⟨rfl, N2⟩
set_option maxRecDepth 65536 in
set_option maxHeartbeats 40000000 in
theorem comes_1 {Post : Tables → Env → Array Value → State → Outcome → State → Prop} (hpost : ∀ tb e args s v u, (limb_1_1.after args s (.returned v) u = true ∧ limb_1_2.after args s (.returned v) u = true ∧ True) → FrameEnd s (.returned v) u (Jvm.fieldLocs frame_1_writes args s ++ Jvm.arrayLocs frame_1_arrays args s ++ Jvm.staticLocs frame_1_statics s) 0 0 → Post tb e args s (.returned v) u) :
    ArmFor flags0 classFile x code maxLocals ret World_1 tables_1 room_1 Calls_1 rest_1 Pre_1 Post := by
  intro l hfl _ _ p e ha hc hk s m args below hf hA hF happ hP
  obtain ⟨hcalls, hrest, hpre⟩ := hP
  obtain ⟨-, -, -, hnamed, -, -, -, hat⟩ := (Spec.applies_iff hf).mp happ
  obtain ⟨hg, hn⟩ := and_e (Cond.before_iff.mp (show (Jvm.Cond.and given_1 narrow_1).before args s = true from hpre))
  obtain ⟨hcount, hg0⟩ := and_e hg
  have ha0 := hg0
  obtain ⟨w0, rfl⟩ : ∃ w0 : Value, args = #[w0] := by
    have hs : args.size = 1 := by simpa [Cond.value, given_1] using hcount
    obtain ⟨L⟩ := args
    match L, hs with
    | [w0], _ => exact ⟨w0, rfl⟩
  have hw := fun d (hd : d ∈ tables_1) => atoms_spec (ws := Jvm.Cond.code x code maxLocals ret :: tables_1) hat d (List.mem_cons_of_mem _ hd)
  have hfit : Fit s := fun {y c} hc i hi => by
    obtain ⟨ha, rfl⟩ := Array.getElem?_eq_some_iff.mp hc
    have q := List.all_eq_true.mp ((Array.all_eq_true_iff_forall_mem.mp hF) _ (Array.getElem_mem ha)) i (List.mem_range.mpr hi)
    simpa [Array.getElem?_eq_getElem hi] using q
  obtain ⟨i0, ei0⟩ := is_v ha0
  obtain rfl : w0 = (.int i0) := Option.some.inj ei0
  obtain ⟨n, o, h1, h2, h3, _, L, rfl, ⟨rfl, N⟩, hq⟩ := rm0 l s _ hw tables_1 i0  s.heap s.heap.size (Nat.le_refl _)  p e ha hc hk s m _ below hf ((Spec.applies_iff_loose hf).mp happ).1 ⟨rfl, State.Warmed39.refl s, rfl⟩ trivial
  refine ⟨n, _, h1, h2, h3, hpost _ _ _ _ _ _ ⟨Cond.after_iff.mpr rfl, Cond.after_iff.mpr (eq_i res_at (Term.int_eval (1)) rfl), trivial⟩ ⟨hq.1, hq.2.1, (hq.2.2.sift fun y hy => Or.inr (N y hy)).mono (by decide) (by decide)⟩⟩
theorem main_1_1 : Claimed_1_1 := comes_1 fun _ _ _ _ _ _ h hF => ⟨h.1, hF⟩
theorem main_1_2 : Claimed_1_2 := comes_1 fun _ _ _ _ _ _ h hF => ⟨h.2.1, hF⟩
end Jvm.Pilot.@@N@@
namespace Jvm.Pilot.@@N@@
open Jvm Jvm.ClassFile Sem Op Lib Jvm.Free Jvm.Stand Jvm.Pilot.@@N@@.Jvm.D
/-! MADE BY PROGRAM (witnessworld.py) out of the Statement's table words and the real class files: 10 classes; the members and pool entries that the words name. The judged class is class 1, her method 2. -/
namespace start1
open Jvm.ClassFile
def u (s : String) : CpInfo := .utf8 (stringToUtf16 s)
/-- a pool by its gaps: so many unusable entries, then the entry; so many at the end -/
def gap : Nat → List CpInfo → List CpInfo
  | 0, r => r
  | n + 1, r => .unusable :: gap n r
def poolList (es : List (Nat × CpInfo)) (last : Nat) : List CpInfo := es.foldr (fun e r => gap e.1 (e.2 :: r)) (gap last [])
def pool (es : List (Nat × CpInfo)) (last : Nat) : Array CpInfo := ⟨poolList es last⟩
def fileOf (pool : Array CpInfo) (this : Nat) (attrs : Array Attribute := #[]) (ms : Array MethodInfo := #[]) (fl : Nat := 33) (sup : Nat := 0) (ifs : Array Nat := #[]) (fds : Array FieldInfo := #[]) : ClassFile where
  minorVersion := 0
  majorVersion := 65
  constantPool := pool
  accessFlags := fl
  thisClass := this
  superClass := sup
  interfaces := ifs
  fields := fds
  methods := ms
  attributes := attrs
def plain (name : String) (sup : Option ClassId) : Class where
  name := name
  kind := .ordinary
  loader := none
  accessFlags := 33
  super := sup
  interfaces := #[]
  cf := none
  fields := #[]
  methods := #[]
  instanceTypes := #[]
  staticTypes := #[]
  resolved := #[]
  callSites := []
  init := .initialized
  statics := none
  mirror := none

def pool0 : Array CpInfo := pool [(5, u "<init>"), (0, u "()V"), (1, .class_ 10), (1, u "java/lang/Object")] 113

def k0m0 : Method := { name := "<init>", desc := "()V", sig := { parameters := [], returnType := none }, accessFlags := 1, code := none }
/-- java/lang/Object -/
def k0 : Class := { plain "java/lang/Object" none with
  accessFlags := 33
  interfaces := #[]
  cf := some (fileOf pool0 8 #[] #[{ accessFlags := 1, nameIndex := 5, descriptorIndex := 6, attributes := #[] }] 33 0 #[] #[])
  fields := #[]
  methods := #[k0m0]
  instanceTypes := #[]
  staticTypes := #[]
  resolved := Array.replicate 124 none
  statics := none }

def pool1 : Array CpInfo := pool [(2, .class_ 4), (1, u "java/lang/Object"), (0, u "<init>"), (0, u "()V"), (0, .methodref 8 9), (0, .class_ 10), (0, .nameAndType 11 12), (0, u "com/example/convey/convey/AccountAddress"), (0, u "isSegmentCharacter"), (0, u "(C)Z"), (0, .methodref 14 15), (0, .class_ 16), (0, .nameAndType 17 12), (0, u "com/example/convey/convey/AccountAddressIsSegmentCharacterPinLaw"), (0, u "expected"), (3, u "law"), (0, u "(I)Z")] 2

def k1m0 : Method := { name := "<init>", desc := "()V", sig := { parameters := [], returnType := none }, accessFlags := 2, code := none }
def k1c1 : Code := { maxStack := 2, maxLocals := 7, code := method_2_code, exceptionTable := #[], attributes := #[] }
def k1m1 : Method := { name := "expected", desc := "(C)Z", sig := { parameters := [.char], returnType := some .boolean }, accessFlags := 10, code := some k1c1 }
def k1c2 : Code := { maxStack := 2, maxLocals := 2, code := code, exceptionTable := #[], attributes := #[] }
def k1m2 : Method := { name := "law", desc := "(I)Z", sig := { parameters := [.int], returnType := some .boolean }, accessFlags := 9, code := some k1c2 }
/-- com/example/convey/convey/AccountAddressIsSegmentCharacterPinLaw -/
def k1 : Class := { plain "com/example/convey/convey/AccountAddressIsSegmentCharacterPinLaw" (some 0) with
  accessFlags := 49
  interfaces := #[]
  cf := some (fileOf pool1 14 #[] #[{ accessFlags := 2, nameIndex := 5, descriptorIndex := 6, attributes := #[] }, { accessFlags := 10, nameIndex := 17, descriptorIndex := 12, attributes := #[] }, { accessFlags := 9, nameIndex := 21, descriptorIndex := 22, attributes := #[] }] 49 2 #[] #[])
  fields := #[]
  methods := #[k1m0, k1m1, k1m2]
  instanceTypes := #[]
  staticTypes := #[]
  resolved := Array.replicate 25 none
  statics := none }

def pool2 : Array CpInfo := pool [(2, .class_ 4), (1, u "java/lang/Object"), (0, u "<init>"), (0, u "()V"), (0, .class_ 8), (0, u "java/lang/Record")] 13

def k2m0 : Method := { name := "<init>", desc := "()V", sig := { parameters := [], returnType := none }, accessFlags := 4, code := none }
/-- java/lang/Record -/
def k2 : Class := { plain "java/lang/Record" (some 0) with
  accessFlags := 1057
  interfaces := #[]
  cf := some (fileOf pool2 7 #[] #[{ accessFlags := 4, nameIndex := 5, descriptorIndex := 6, attributes := #[] }] 1057 2 #[] #[])
  fields := #[]
  methods := #[k2m0]
  instanceTypes := #[]
  staticTypes := #[]
  resolved := Array.replicate 22 none
  statics := none }

def pool3 : Array CpInfo := pool [(2, .class_ 4), (1, u "java/lang/Record"), (3, u "value"), (7, .class_ 18), (1, u "com/example/convey/convey/AccountAddress"), (13, u "Ljava/lang/String;"), (12, u "isSegmentCharacter"), (0, u "(C)Z"), (13, u "WORLD"), (0, u "Lcom/example/convey/convey/AccountAddress;"), (0, u "SEGMENT_SEPARATOR"), (0, u "C")] 36

def k3c0 : Code := { maxStack := 2, maxLocals := 1, code := prog_2_method_4_code, exceptionTable := #[], attributes := #[] }
def k3m0 : Method := { name := "isSegmentCharacter", desc := "(C)Z", sig := { parameters := [.char], returnType := some .boolean }, accessFlags := 8, code := some k3c0 }
/-- com/example/convey/convey/AccountAddress -/
def k3 : Class := { plain "com/example/convey/convey/AccountAddress" (some 2) with
  accessFlags := 49
  interfaces := #[]
  cf := some (fileOf pool3 16 #[] #[{ accessFlags := 8, nameIndex := 45, descriptorIndex := 46, attributes := #[] }] 49 2 #[] #[{ accessFlags := 18, nameIndex := 8, descriptorIndex := 32, attributes := #[] }, { accessFlags := 26, nameIndex := 62, descriptorIndex := 63, attributes := #[] }, { accessFlags := 24, nameIndex := 60, descriptorIndex := 61, attributes := #[] }])
  fields := #[{ name := "value", type := (.object "java/lang/String"), accessFlags := 18, slot := 0, constantValue := 0 }, { name := "SEGMENT_SEPARATOR", type := .char, accessFlags := 26, slot := 0, constantValue := 0 }, { name := "WORLD", type := (.object "com/example/convey/convey/AccountAddress"), accessFlags := 24, slot := 1, constantValue := 0 }]
  methods := #[k3m0]
  instanceTypes := #[(.object "java/lang/String")]
  staticTypes := #[.char, (.object "com/example/convey/convey/AccountAddress")]
  resolved := Array.replicate 100 none
  statics := none }

def pool4 : Array CpInfo := pool [(1, u "java/lang/Cloneable"), (0, .class_ 1), (0, u "java/lang/Object"), (0, .class_ 3)] 3

/-- java/lang/Cloneable -/
def k4 : Class := { plain "java/lang/Cloneable" (some 0) with
  accessFlags := 1537
  interfaces := #[]
  cf := some (fileOf pool4 2 #[] #[] 1537 4 #[] #[])
  fields := #[]
  methods := #[]
  instanceTypes := #[]
  staticTypes := #[]
  resolved := Array.replicate 8 none
  statics := none }

def pool5 : Array CpInfo := pool [(1, u "java/io/Serializable"), (0, .class_ 1), (0, u "java/lang/Object"), (0, .class_ 3)] 3

/-- java/io/Serializable -/
def k5 : Class := { plain "java/io/Serializable" (some 0) with
  accessFlags := 1537
  interfaces := #[]
  cf := some (fileOf pool5 2 #[] #[] 1537 4 #[] #[])
  fields := #[]
  methods := #[]
  instanceTypes := #[]
  staticTypes := #[]
  resolved := Array.replicate 8 none
  statics := none }

/-- the primitive byte -/
def k6 : Class := { plain "byte" none with kind := .primitive 'B', accessFlags := 0x411 }
/-- [B -/
def k7 : Class := { plain "[B" (some 0) with kind := .array 6 .byte, interfaces := #[4, 5], accessFlags := 1041 }

/-- the primitive int -/
def k8 : Class := { plain "int" none with kind := .primitive 'I', accessFlags := 0x411 }
/-- [I -/
def k9 : Class := { plain "[I" (some 0) with kind := .array 8 .int, interfaces := #[4, 5], accessFlags := 1041 }

def heap : Heap := #[]
def classes : Array Class := #[k0, k1, k2, k3, k4, k5, k6, k7, k8, k9]
def interned : List (Array UInt16 × Addr) := []
def slotsUsed : Nat := 0
def theMethod : MethodId := ⟨1, 2⟩
def args0 : Array Value := #[.int 5]
def aboutOver (below : List Frame) : State where
  vm := { classes := classes, interned := interned.toArray }
  heap := heap
  slotsUsed := slotsUsed
  threads := #[{ frames := .invoking theMethod args0 :: below }]
def below0 : List Frame := [.native { method := ⟨0, 0⟩, args := #[] }]
def about1 : State := aboutOver below0
def p0 : Program := .bare "" "" ""
def e0 : Env := launch0.env 0 0 0
theorem w_frames : about1.frames = Frame.invoking theMethod args0 :: below0 := rfl
set_option maxRecDepth 65536 in
theorem w_args : argsFit about1.vm theMethod args0 = true := by decide +kernel
set_option maxRecDepth 65536 in
theorem w_heap : heapFits about1 = true := by decide +kernel
set_option maxRecDepth 65536 in
theorem w_runnable : about1.curStatus? = some .runnable := by decide +kernel
set_option maxRecDepth 65536 in
theorem w_alone : about1.alone = true := by decide +kernel
set_option maxRecDepth 65536 in
theorem w_named : about1.methodNamed? x = some theMethod := by decide +kernel
set_option maxRecDepth 65536 in
theorem w_hears : about1.hears theMethod below0 = true := by decide +kernel
set_option maxRecDepth 65536 in
theorem w_ripe : about1.ripe theMethod args0 below0 = true := by decide +kernel
theorem w_running : about1.status = .running := rfl
set_option maxRecDepth 65536 in
theorem w_room : about1.hasRoom e0.platform room_1 = true :=
  launch0.hasRoom_least _ room_1 (by decide +kernel) (by decide +kernel) (by decide +kernel) (by decide +kernel) (by decide +kernel) (by decide +kernel)
theorem allAtoms_all (ts : List Jvm.Cond) (a : Array Jvm.Value) (st : Jvm.State) : (allAtoms ts).before a st = ts.all (fun c => c.before a st) := by
  induction ts with
  | nil => rfl
  | cons c t ih =>
    show (Jvm.Cond.and c (allAtoms t)).before a st = _
    rw [Jvm.Cond.before_and, ih, List.all_cons]
def words1 : List Jvm.Cond := Jvm.Cond.code x code maxLocals ret :: tables_1
/-- a 'code' word, met by the world's own term for the bytes: nothing is compared byte by byte -/
theorem code_word {y : MethodName} {bytes : ByteArray} {mx : Nat} {rt : Option FieldType} {a : Array Value} {s : State} {m : MethodId} {meth : Method} {c : Code} (h1 : s.methodNamed? y = some m) (h2 : s.vm.method? m = some meth) (h3 : meth.code = some c) (h4 : c.code = bytes)
    (h5 : (c.maxLocals == mx && c.exceptionTable.isEmpty && decide (c.maxStack ≤ mostOperands) && decide (meth.sig.returnType = rt) && !meth.locks && decide (parseMethodDescriptor y.desc = some meth.sig)) = true) : (Jvm.Cond.code y bytes mx rt).before a s = true := by
  simp only [Bool.and_eq_true, beq_iff_eq, Bool.not_eq_true', decide_eq_true_eq] at h5
  obtain ⟨⟨⟨⟨⟨g1, g2⟩, g3⟩, g4⟩, g5⟩, g6⟩ := h5
  simp [Cond.before, Cond.holds, Cond.value, h1, h2, h3, h4, g1, g2, g3, g4, g5, g6]
def isCode : Jvm.Cond → Bool
  | .code _ _ _ _ => true
  | _ => false
theorem all_split {L : List Jvm.Cond} {P : Jvm.Cond → Bool} (h1 : L.all (fun c => isCode c || P c) = true) (h2 : ∀ c ∈ L.filter isCode, P c = true) : L.all P = true := by
  refine List.all_eq_true.mpr fun c hc => ?_
  have h := List.all_eq_true.mp h1 c hc
  rcases Bool.eq_false_or_eq_true (isCode c) with hi | hi
  · exact h2 c (List.mem_filter.mpr ⟨hc, hi⟩)
  · simpa [hi] using h
set_option maxRecDepth 65536 in
theorem w_c0 : (Jvm.Cond.code x code maxLocals ret).before args0 about1 = true := code_word (m := ⟨1, 2⟩) (meth := k1m2) (c := k1c2) (by decide +kernel) rfl rfl rfl (by decide +kernel)
set_option maxRecDepth 65536 in
theorem w_c1 : (Jvm.Cond.code ({ cls := "com/example/convey/convey/AccountAddress", name := "isSegmentCharacter", desc := "(C)Z" } : Jvm.MethodName) prog_2_method_4_code (1 : Nat) (Option.some Jvm.ClassFile.FieldType.boolean)).before args0 about1 = true := code_word (m := ⟨3, 0⟩) (meth := k3m0) (c := k3c0) (by decide +kernel) rfl rfl rfl (by decide +kernel)
set_option maxRecDepth 65536 in
theorem w_c2 : (Jvm.Cond.code ({ cls := "com/example/convey/convey/AccountAddressIsSegmentCharacterPinLaw", name := "expected", desc := "(C)Z" } : Jvm.MethodName) method_2_code (7 : Nat) (Option.some Jvm.ClassFile.FieldType.boolean)).before args0 about1 = true := code_word (m := ⟨1, 1⟩) (meth := k1m1) (c := k1c1) (by decide +kernel) rfl rfl rfl (by decide +kernel)
def codes1 : List Jvm.Cond := [Jvm.Cond.code x code maxLocals ret, Jvm.Cond.code ({ cls := "com/example/convey/convey/AccountAddress", name := "isSegmentCharacter", desc := "(C)Z" } : Jvm.MethodName) prog_2_method_4_code (1 : Nat) (Option.some Jvm.ClassFile.FieldType.boolean), Jvm.Cond.code ({ cls := "com/example/convey/convey/AccountAddressIsSegmentCharacterPinLaw", name := "expected", desc := "(C)Z" } : Jvm.MethodName) method_2_code (7 : Nat) (Option.some Jvm.ClassFile.FieldType.boolean)]
set_option maxRecDepth 65536 in
theorem codes_eq : words1.filter isCode = codes1 := rfl
theorem w_codes : ∀ c ∈ words1.filter isCode, c.before args0 about1 = true := by
  rw [codes_eq]
  intro c hc
  simp only [codes1, List.mem_cons, List.not_mem_nil, or_false] at hc
  rcases hc with rfl | rfl | rfl
  · exact w_c0
  · exact w_c1
  · exact w_c2
set_option maxRecDepth 65536 in
theorem w_t1 : words1.all (fun c => isCode c || c.before args0 about1) = true := by decide +kernel
theorem w_tables : (allAtoms (Jvm.Cond.code x code maxLocals ret :: tables_1)).before args0 about1 = true := by
  rw [allAtoms_all]
  show words1.all (fun c => c.before args0 about1) = true
  refine all_split ?_ w_codes
  rw [w_t1]
set_option maxRecDepth 65536 in
theorem w_case : (Jvm.Cond.and given_1 narrow_1).before args0 about1 = true := by decide +kernel
theorem w_applies : (headSpec (Jvm.Cond.code x code maxLocals ret :: tables_1) room_1).applies x e0.platform about1 = true :=
  (Spec.applies_iff w_frames).mpr ⟨w_running, w_runnable, w_alone, w_named, w_hears, w_ripe, w_room, w_tables⟩
theorem atStart : AtStart classFile x code maxLocals ret World_1 tables_1 room_1 Calls_1 rest_1 Pre_1 launch0 p0 e0 about1 theMethod args0 below0 :=
  ⟨lists_1, trivial, launch0.admits_env _ _ _, launch0.least_env, fairChoices_fair.cas, fairChoices_fair.clock, w_frames, w_args, w_heap, w_applies, trivial, trivial, w_case⟩
end start1
theorem witness_1 : WitnessClaimed_1 := ⟨start1.p0, start1.e0, start1.about1, start1.theMethod, start1.args0, start1.below0, start1.atStart⟩
end Jvm.Pilot.@@N@@
