import JvmDerived
import JvmDerived.Pilot.@@N@@Statement
import JvmDerived.Pilot.@@N@@Code
set_option linter.unusedVariables false
set_option linter.unusedSimpArgs false

namespace Jvm.Pilot.@@N@@
open Jvm Jvm.ClassFile Sem Op Lib Jvm.Free Jvm.Stand Jvm.LawKit Jvm.RoadKit Bundle Jvm.Pilot.@@N@@.Jvm.D

def own_sh (z : Int64) (k : Int32) : Int64 := (z.toUInt64 >>> (k &&& 0x3f).toInt64.toUInt64).toInt64
def own_st (o v : Int64) : Int64 := v * ((2 : Int64) - o * v)
def own_inv (o : Int64) : Int64 := own_st o (own_st o (own_st o (own_st o (own_st o o))))
def own_x (z : Int64) (k : Int32) : Int64 := z ^^^ own_sh z k
def own_y (z : Int64) (k j : Int32) : Int64 := (z ^^^ own_sh z k) ^^^ own_sh z j
def own_mix (z : Int64) : Int64 := own_x (own_x (own_x z (30 : Int32) * (-4658895280553007687 : Int64)) (27 : Int32) * (-7723592293110705685 : Int64)) (31 : Int32)
def own_un (z : Int64) : Int64 := own_y (own_y (own_y z (31 : Int32) (62 : Int32) * own_inv (-7723592293110705685 : Int64)) (27 : Int32) (54 : Int32) * own_inv (-4658895280553007687 : Int64)) (30 : Int32) (60 : Int32)
theorem own_shb (z : Int64) (k : Int32) (n : Nat) (h : (k &&& 0x3f).toInt64.toUInt64 = UInt64.ofNat n) (hn : n < 64) : (own_sh z k).toBitVec = z.toBitVec >>> n := by
  unfold own_sh
  rw [h]
  show (z.toUInt64 >>> UInt64.ofNat n).toBitVec = _
  rw [UInt64.toBitVec_shiftRight]
  show z.toBitVec >>> ((UInt64.ofNat n).toBitVec % 64) = _
  rw [BitVec.ushiftRight_eq']
  congr 1
  rw [BitVec.toNat_umod]
  show (BitVec.ofNat 64 n).toNat % 64 = n
  rw [BitVec.toNat_ofNat]; omega
theorem own_xb (z : BitVec 64) (k : Nat) (hk : 64 ≤ 3 * k) : (let x := z ^^^ (z >>> k); (x ^^^ (x >>> k)) ^^^ (x >>> (2 * k))) = z := by
  apply BitVec.eq_of_getLsbD_eq
  intro i hi
  have e : z.getLsbD (2 * k + (k + i)) = false := BitVec.getLsbD_of_ge _ _ (by omega)
  have e1 : z.getLsbD (k + (2 * k + i)) = false := BitVec.getLsbD_of_ge _ _ (by omega)
  have e2 : k + (k + i) = 2 * k + i := by omega
  simp only [BitVec.getLsbD_xor, BitVec.getLsbD_ushiftRight, e1, e2]
  cases z.getLsbD i <;> cases z.getLsbD (k + i) <;> cases z.getLsbD (2 * k + i) <;> rfl
theorem own_yb (z : BitVec 64) (k : Nat) (hk : 64 ≤ 3 * k) : (let y := (z ^^^ (z >>> k)) ^^^ (z >>> (2 * k)); y ^^^ (y >>> k)) = z := by
  apply BitVec.eq_of_getLsbD_eq
  intro i hi
  have e1 : z.getLsbD (2 * k + (k + i)) = false := BitVec.getLsbD_of_ge _ _ (by omega)
  have e2 : k + (k + i) = 2 * k + i := by omega
  simp only [BitVec.getLsbD_xor, BitVec.getLsbD_ushiftRight, e1, e2]
  cases z.getLsbD i <;> cases z.getLsbD (k + i) <;> cases z.getLsbD (2 * k + i) <;> rfl
theorem own_yx (z : Int64) (k j : Int32) (n : Nat) (h : (k &&& 0x3f).toInt64.toUInt64 = UInt64.ofNat n) (h2 : (j &&& 0x3f).toInt64.toUInt64 = UInt64.ofNat (2 * n)) (hn : 2 * n < 64) (h3 : 64 ≤ 3 * n) : own_y (own_x z k) k j = z := by
  apply Int64.toBitVec_inj.mp
  have e := own_xb z.toBitVec n h3
  unfold own_y
  rw [Int64.toBitVec_xor, Int64.toBitVec_xor, own_shb _ k n h (by omega), own_shb _ j (2 * n) h2 hn]
  unfold own_x
  rw [Int64.toBitVec_xor, own_shb _ k n h (by omega)]
  exact e
theorem own_xy (z : Int64) (k j : Int32) (n : Nat) (h : (k &&& 0x3f).toInt64.toUInt64 = UInt64.ofNat n) (h2 : (j &&& 0x3f).toInt64.toUInt64 = UInt64.ofNat (2 * n)) (hn : 2 * n < 64) (h3 : 64 ≤ 3 * n) : own_x (own_y z k j) k = z := by
  apply Int64.toBitVec_inj.mp
  have e := own_yb z.toBitVec n h3
  unfold own_x
  rw [Int64.toBitVec_xor, own_shb _ k n h (by omega)]
  unfold own_y
  rw [Int64.toBitVec_xor, Int64.toBitVec_xor, own_shb _ k n h (by omega), own_shb _ j (2 * n) h2 hn]
  exact e
theorem own_i1 : (-4658895280553007687 : Int64) * own_inv (-4658895280553007687 : Int64) = 1 := by decide +kernel
theorem own_i2 : (-7723592293110705685 : Int64) * own_inv (-7723592293110705685 : Int64) = 1 := by decide +kernel
theorem own_i1' : own_inv (-4658895280553007687 : Int64) * (-4658895280553007687 : Int64) = 1 := by decide +kernel
theorem own_i2' : own_inv (-7723592293110705685 : Int64) * (-7723592293110705685 : Int64) = 1 := by decide +kernel
theorem own_back (z : Int64) : own_un (own_mix z) = z := by
  unfold own_un own_mix
  rw [own_yx _ 31 62 31 (by decide +kernel) (by decide +kernel) (by decide) (by decide), Int64.mul_assoc, own_i2, Int64.mul_one,
    own_yx _ 27 54 27 (by decide +kernel) (by decide +kernel) (by decide) (by decide), Int64.mul_assoc, own_i1, Int64.mul_one,
    own_yx _ 30 60 30 (by decide +kernel) (by decide +kernel) (by decide) (by decide)]
theorem own_forth (z : Int64) : own_mix (own_un z) = z := by
  unfold own_un own_mix
  rw [own_xy _ 30 60 30 (by decide +kernel) (by decide +kernel) (by decide) (by decide), Int64.mul_assoc, own_i1', Int64.mul_one,
    own_xy _ 27 54 27 (by decide +kernel) (by decide +kernel) (by decide) (by decide), Int64.mul_assoc, own_i2', Int64.mul_one,
    own_xy _ 31 62 31 (by decide +kernel) (by decide +kernel) (by decide) (by decide)]
theorem own_lc {x y : Int64} (h : x = y) : lcmpW x y = 0 := by subst h; rw [lcW]; exact (lc_eq x x).mpr rfl

theorem dA_0 : decode method_2_code 0 = .ok (.lload_n 0, 1) := by decide +kernel
theorem dA_1 : decode method_2_code 1 = .ok (.lstore_n 2, 1) := by decide +kernel
theorem dA_2 : decode method_2_code 2 = .ok (.lload_n 2, 1) := by decide +kernel
theorem dA_3 : decode method_2_code 3 = .ok (.ldc2_w 7, 3) := by decide +kernel
theorem dA_6 : decode method_2_code 6 = .ok (.lload_n 0, 1) := by decide +kernel
theorem dA_7 : decode method_2_code 7 = .ok (.lload_n 2, 1) := by decide +kernel
theorem dA_8 : decode method_2_code 8 = .ok (.lmul, 1) := by decide +kernel
theorem dA_9 : decode method_2_code 9 = .ok (.lsub, 1) := by decide +kernel
theorem dA_10 : decode method_2_code 10 = .ok (.lmul, 1) := by decide +kernel
theorem dA_11 : decode method_2_code 11 = .ok (.lstore_n 2, 1) := by decide +kernel
theorem dA_12 : decode method_2_code 12 = .ok (.lload_n 2, 1) := by decide +kernel
theorem dA_13 : decode method_2_code 13 = .ok (.ldc2_w 7, 3) := by decide +kernel
theorem dA_16 : decode method_2_code 16 = .ok (.lload_n 0, 1) := by decide +kernel
theorem dA_17 : decode method_2_code 17 = .ok (.lload_n 2, 1) := by decide +kernel
theorem dA_18 : decode method_2_code 18 = .ok (.lmul, 1) := by decide +kernel
theorem dA_19 : decode method_2_code 19 = .ok (.lsub, 1) := by decide +kernel
theorem dA_20 : decode method_2_code 20 = .ok (.lmul, 1) := by decide +kernel
theorem dA_21 : decode method_2_code 21 = .ok (.lstore_n 2, 1) := by decide +kernel
theorem dA_22 : decode method_2_code 22 = .ok (.lload_n 2, 1) := by decide +kernel
theorem dA_23 : decode method_2_code 23 = .ok (.ldc2_w 7, 3) := by decide +kernel
theorem dA_26 : decode method_2_code 26 = .ok (.lload_n 0, 1) := by decide +kernel
theorem dA_27 : decode method_2_code 27 = .ok (.lload_n 2, 1) := by decide +kernel
theorem dA_28 : decode method_2_code 28 = .ok (.lmul, 1) := by decide +kernel
theorem dA_29 : decode method_2_code 29 = .ok (.lsub, 1) := by decide +kernel
theorem dA_30 : decode method_2_code 30 = .ok (.lmul, 1) := by decide +kernel
theorem dA_31 : decode method_2_code 31 = .ok (.lstore_n 2, 1) := by decide +kernel
theorem dA_32 : decode method_2_code 32 = .ok (.lload_n 2, 1) := by decide +kernel
theorem dA_33 : decode method_2_code 33 = .ok (.ldc2_w 7, 3) := by decide +kernel
theorem dA_36 : decode method_2_code 36 = .ok (.lload_n 0, 1) := by decide +kernel
theorem dA_37 : decode method_2_code 37 = .ok (.lload_n 2, 1) := by decide +kernel
theorem dA_38 : decode method_2_code 38 = .ok (.lmul, 1) := by decide +kernel
theorem dA_39 : decode method_2_code 39 = .ok (.lsub, 1) := by decide +kernel
theorem dA_40 : decode method_2_code 40 = .ok (.lmul, 1) := by decide +kernel
theorem dA_41 : decode method_2_code 41 = .ok (.lstore_n 2, 1) := by decide +kernel
theorem dA_42 : decode method_2_code 42 = .ok (.lload_n 2, 1) := by decide +kernel
theorem dA_43 : decode method_2_code 43 = .ok (.ldc2_w 7, 3) := by decide +kernel
theorem dA_46 : decode method_2_code 46 = .ok (.lload_n 0, 1) := by decide +kernel
theorem dA_47 : decode method_2_code 47 = .ok (.lload_n 2, 1) := by decide +kernel
theorem dA_48 : decode method_2_code 48 = .ok (.lmul, 1) := by decide +kernel
theorem dA_49 : decode method_2_code 49 = .ok (.lsub, 1) := by decide +kernel
theorem dA_50 : decode method_2_code 50 = .ok (.lmul, 1) := by decide +kernel
theorem dA_51 : decode method_2_code 51 = .ok (.lstore_n 2, 1) := by decide +kernel
theorem dA_52 : decode method_2_code 52 = .ok (.lload_n 2, 1) := by decide +kernel
theorem dA_53 : decode method_2_code 53 = .ok (.lreturn, 1) := by decide +kernel
theorem pnA : plainName "hearsay/base/RandomStreamsMixPinLaw" = true := by first | (simp [plainName, overriddenIn]; done) | decide +kernel
theorem efA (m : MethodId) (q1 : Int64) : entryFrame m #[(.long q1)] 4 = mkF m 0 #[.val (.long q1), .second, .unset, .unset] [] := by first | (simp [entryFrame, mkF, argsToLocals, Value.category]; done) | rfl
def QA (Z : State) (q1 : Int64) (h0 : Heap) (n0 : Nat) (v : Option Value) (h : Heap) (L : List Loc) : Prop := v = some (.long (own_inv q1)) ∧ Fr n0 L ∧ h = h0
set_option maxRecDepth 65536 in
set_option maxHeartbeats 40000000 in
theorem rmA (l : Launch) (Z : State) (a0 : Array Value) (hw : ∀ d ∈ tables_1, d.before a0 Z = true) (ws : List Jvm.Cond) (q1 : Int64) (h0 : Heap) (n0 : Nat) (Z0 : n0 ≤ h0.size) :
    MetFree l (⟨"hearsay/base/RandomStreamsMixPinLaw", "inverse", "(J)J"⟩ : MethodName) (head1 (Jvm.Cond.code (⟨"hearsay/base/RandomStreamsMixPinLaw", "inverse", "(J)J"⟩ : MethodName) method_2_code 4 (some .long) :: ws) ({ frames := 0, cells := 0, slots := 0, locals := 0 } : Room)) (fun a U => a = #[(.long q1)] ∧ Z.Warmed39 U.vm ∧ U.heap = h0) (fun _ _ _ _ _ => True) (fun _ U o U' => ∃ v L, o = .returned v ∧ QA Z q1 h0 n0 v U'.heap L ∧ FrameEnd U o U' L ({ frames := 0, cells := 0, slots := 0, locals := 0 } : Room).cells ({ frames := 0, cells := 0, slots := 0, locals := 0 } : Room).slots) := by
  refine MetFree.of_bodySF (plainFor_of_name pnA) hisR ?_
  intro p e s m args below meth c s₁ Bd hml0 hP hK
  obtain ⟨rfl, hZ, hh⟩ := hP
  have hx := Bd.exec
  have hby := Bd.bytes
  have hml : c.maxLocals = 4 := hml0
  have hown : s.vm.findClass "hearsay/base/RandomStreamsMixPinLaw" = some m.cls := findClass_of_methodNamed Bd.named
  have hnm := (name_of_methodNamed Bd.named Bd.method).1
  have X0 : Stand p l e ({ frames := 0, cells := 0, slots := 0, locals := 0 } : Room) s m #[(.long q1)] below meth c s₁ [] 0 0 := Stand.of_body Bd
  have e0 : s₁.heap = h0 := by rw [← hh, Bd.state]; rfl
  have N0 := Fr.nil n0
  have pre0 : ∀ t, Steps p.tables e below (s₁.setTop (mkF m 0 #[.val (.long q1), .second, .unset, .unset] [])) t → Steps p.tables e below (s₁.setTop (entryFrame m #[(.long q1)] 4)) t := fun t k => castTop (efA m q1) k
  have pre1 : ∀ t, Steps p.tables e below (s₁.setTop (mkF m 12 #[.val (.long q1), .second, .val (.long (q1 * ((2 : Int64) - (q1 * q1)))), .second] [])) t → Steps p.tables e below (s₁.setTop (entryFrame m #[(.long q1)] 4)) t := fun t_ k_ => pre0 t_ (by
      refine XS.lloadN X0.here hx rfl (hb hby dA_0) rfl ?_
      show Steps p.tables e below (s₁.setTop (mkF m 1 #[.val (.long q1), .second, .unset, .unset] [(.long q1)])) _
      refine XS.lstoreN X0.here hx rfl (hb hby dA_1) rfl (l' := #[.val (.long q1), .second, .val (.long q1), .second]) rfl ?_
      show Steps p.tables e below (s₁.setTop (mkF m 2 #[.val (.long q1), .second, .val (.long q1), .second] [])) _
      refine XS.lloadN X0.here hx rfl (hb hby dA_2) rfl ?_
      show Steps p.tables e below (s₁.setTop (mkF m 3 #[.val (.long q1), .second, .val (.long q1), .second] [(.long q1)])) _
      refine X0.ldc2Long hx hown (mvT hZ (hw _ (List.mem_of_getElem? (i := 14) rfl))) (g := (mkF m 3 #[.val (.long q1), .second, .val (.long q1), .second] [(.long q1)])) rfl (hb hby dA_3) _ ?_
      show Steps p.tables e below (s₁.setTop (mkF m 6 #[.val (.long q1), .second, .val (.long q1), .second] [(.long (2 : Int64)), (.long q1)])) _
      refine XS.lloadN X0.here hx rfl (hb hby dA_6) rfl ?_
      show Steps p.tables e below (s₁.setTop (mkF m 7 #[.val (.long q1), .second, .val (.long q1), .second] [(.long q1), (.long (2 : Int64)), (.long q1)])) _
      refine XS.lloadN X0.here hx rfl (hb hby dA_7) rfl ?_
      show Steps p.tables e below (s₁.setTop (mkF m 8 #[.val (.long q1), .second, .val (.long q1), .second] [(.long q1), (.long q1), (.long (2 : Int64)), (.long q1)])) _
      refine XS.lmul X0.here hx rfl (hb hby dA_8) rfl ?_
      show Steps p.tables e below (s₁.setTop (mkF m 9 #[.val (.long q1), .second, .val (.long q1), .second] [(.long (q1 * q1)), (.long (2 : Int64)), (.long q1)])) _
      refine XS.lsub X0.here hx rfl (hb hby dA_9) rfl ?_
      show Steps p.tables e below (s₁.setTop (mkF m 10 #[.val (.long q1), .second, .val (.long q1), .second] [(.long ((2 : Int64) - (q1 * q1))), (.long q1)])) _
      refine XS.lmul X0.here hx rfl (hb hby dA_10) rfl ?_
      show Steps p.tables e below (s₁.setTop (mkF m 11 #[.val (.long q1), .second, .val (.long q1), .second] [(.long (q1 * ((2 : Int64) - (q1 * q1))))])) _
      refine XS.lstoreN X0.here hx rfl (hb hby dA_11) rfl (l' := #[.val (.long q1), .second, .val (.long (q1 * ((2 : Int64) - (q1 * q1)))), .second]) rfl ?_
      show Steps p.tables e below (s₁.setTop (mkF m 12 #[.val (.long q1), .second, .val (.long (q1 * ((2 : Int64) - (q1 * q1)))), .second] [])) _
      exact k_)
  obtain ⟨v0, e_v0⟩ : ∃ z : Int64, z = own_st q1 q1 := ⟨_, rfl⟩
  have pre2 : ∀ t, Steps p.tables e below (s₁.setTop (mkF m 12 #[.val (.long q1), .second, .val (.long v0), .second] [])) t → Steps p.tables e below (s₁.setTop (entryFrame m #[(.long q1)] 4)) t := by subst e_v0; exact pre1
  have pre3 : ∀ t, Steps p.tables e below (s₁.setTop (mkF m 22 #[.val (.long q1), .second, .val (.long (v0 * ((2 : Int64) - (q1 * v0)))), .second] [])) t → Steps p.tables e below (s₁.setTop (entryFrame m #[(.long q1)] 4)) t := fun t_ k_ => pre2 t_ (by
      refine XS.lloadN X0.here hx rfl (hb hby dA_12) rfl ?_
      show Steps p.tables e below (s₁.setTop (mkF m 13 #[.val (.long q1), .second, .val (.long v0), .second] [(.long v0)])) _
      refine X0.ldc2Long hx hown (mvT hZ (hw _ (List.mem_of_getElem? (i := 14) rfl))) (g := (mkF m 13 #[.val (.long q1), .second, .val (.long v0), .second] [(.long v0)])) rfl (hb hby dA_13) _ ?_
      show Steps p.tables e below (s₁.setTop (mkF m 16 #[.val (.long q1), .second, .val (.long v0), .second] [(.long (2 : Int64)), (.long v0)])) _
      refine XS.lloadN X0.here hx rfl (hb hby dA_16) rfl ?_
      show Steps p.tables e below (s₁.setTop (mkF m 17 #[.val (.long q1), .second, .val (.long v0), .second] [(.long q1), (.long (2 : Int64)), (.long v0)])) _
      refine XS.lloadN X0.here hx rfl (hb hby dA_17) rfl ?_
      show Steps p.tables e below (s₁.setTop (mkF m 18 #[.val (.long q1), .second, .val (.long v0), .second] [(.long v0), (.long q1), (.long (2 : Int64)), (.long v0)])) _
      refine XS.lmul X0.here hx rfl (hb hby dA_18) rfl ?_
      show Steps p.tables e below (s₁.setTop (mkF m 19 #[.val (.long q1), .second, .val (.long v0), .second] [(.long (q1 * v0)), (.long (2 : Int64)), (.long v0)])) _
      refine XS.lsub X0.here hx rfl (hb hby dA_19) rfl ?_
      show Steps p.tables e below (s₁.setTop (mkF m 20 #[.val (.long q1), .second, .val (.long v0), .second] [(.long ((2 : Int64) - (q1 * v0))), (.long v0)])) _
      refine XS.lmul X0.here hx rfl (hb hby dA_20) rfl ?_
      show Steps p.tables e below (s₁.setTop (mkF m 21 #[.val (.long q1), .second, .val (.long v0), .second] [(.long (v0 * ((2 : Int64) - (q1 * v0))))])) _
      refine XS.lstoreN X0.here hx rfl (hb hby dA_21) rfl (l' := #[.val (.long q1), .second, .val (.long (v0 * ((2 : Int64) - (q1 * v0)))), .second]) rfl ?_
      show Steps p.tables e below (s₁.setTop (mkF m 22 #[.val (.long q1), .second, .val (.long (v0 * ((2 : Int64) - (q1 * v0)))), .second] [])) _
      exact k_)
  obtain ⟨v1, e_v1⟩ : ∃ z : Int64, z = own_st q1 v0 := ⟨_, rfl⟩
  have pre4 : ∀ t, Steps p.tables e below (s₁.setTop (mkF m 22 #[.val (.long q1), .second, .val (.long v1), .second] [])) t → Steps p.tables e below (s₁.setTop (entryFrame m #[(.long q1)] 4)) t := by subst e_v1; exact pre3
  have pre5 : ∀ t, Steps p.tables e below (s₁.setTop (mkF m 32 #[.val (.long q1), .second, .val (.long (v1 * ((2 : Int64) - (q1 * v1)))), .second] [])) t → Steps p.tables e below (s₁.setTop (entryFrame m #[(.long q1)] 4)) t := fun t_ k_ => pre4 t_ (by
      refine XS.lloadN X0.here hx rfl (hb hby dA_22) rfl ?_
      show Steps p.tables e below (s₁.setTop (mkF m 23 #[.val (.long q1), .second, .val (.long v1), .second] [(.long v1)])) _
      refine X0.ldc2Long hx hown (mvT hZ (hw _ (List.mem_of_getElem? (i := 14) rfl))) (g := (mkF m 23 #[.val (.long q1), .second, .val (.long v1), .second] [(.long v1)])) rfl (hb hby dA_23) _ ?_
      show Steps p.tables e below (s₁.setTop (mkF m 26 #[.val (.long q1), .second, .val (.long v1), .second] [(.long (2 : Int64)), (.long v1)])) _
      refine XS.lloadN X0.here hx rfl (hb hby dA_26) rfl ?_
      show Steps p.tables e below (s₁.setTop (mkF m 27 #[.val (.long q1), .second, .val (.long v1), .second] [(.long q1), (.long (2 : Int64)), (.long v1)])) _
      refine XS.lloadN X0.here hx rfl (hb hby dA_27) rfl ?_
      show Steps p.tables e below (s₁.setTop (mkF m 28 #[.val (.long q1), .second, .val (.long v1), .second] [(.long v1), (.long q1), (.long (2 : Int64)), (.long v1)])) _
      refine XS.lmul X0.here hx rfl (hb hby dA_28) rfl ?_
      show Steps p.tables e below (s₁.setTop (mkF m 29 #[.val (.long q1), .second, .val (.long v1), .second] [(.long (q1 * v1)), (.long (2 : Int64)), (.long v1)])) _
      refine XS.lsub X0.here hx rfl (hb hby dA_29) rfl ?_
      show Steps p.tables e below (s₁.setTop (mkF m 30 #[.val (.long q1), .second, .val (.long v1), .second] [(.long ((2 : Int64) - (q1 * v1))), (.long v1)])) _
      refine XS.lmul X0.here hx rfl (hb hby dA_30) rfl ?_
      show Steps p.tables e below (s₁.setTop (mkF m 31 #[.val (.long q1), .second, .val (.long v1), .second] [(.long (v1 * ((2 : Int64) - (q1 * v1))))])) _
      refine XS.lstoreN X0.here hx rfl (hb hby dA_31) rfl (l' := #[.val (.long q1), .second, .val (.long (v1 * ((2 : Int64) - (q1 * v1)))), .second]) rfl ?_
      show Steps p.tables e below (s₁.setTop (mkF m 32 #[.val (.long q1), .second, .val (.long (v1 * ((2 : Int64) - (q1 * v1)))), .second] [])) _
      exact k_)
  obtain ⟨v2, e_v2⟩ : ∃ z : Int64, z = own_st q1 v1 := ⟨_, rfl⟩
  have pre6 : ∀ t, Steps p.tables e below (s₁.setTop (mkF m 32 #[.val (.long q1), .second, .val (.long v2), .second] [])) t → Steps p.tables e below (s₁.setTop (entryFrame m #[(.long q1)] 4)) t := by subst e_v2; exact pre5
  have pre7 : ∀ t, Steps p.tables e below (s₁.setTop (mkF m 42 #[.val (.long q1), .second, .val (.long (v2 * ((2 : Int64) - (q1 * v2)))), .second] [])) t → Steps p.tables e below (s₁.setTop (entryFrame m #[(.long q1)] 4)) t := fun t_ k_ => pre6 t_ (by
      refine XS.lloadN X0.here hx rfl (hb hby dA_32) rfl ?_
      show Steps p.tables e below (s₁.setTop (mkF m 33 #[.val (.long q1), .second, .val (.long v2), .second] [(.long v2)])) _
      refine X0.ldc2Long hx hown (mvT hZ (hw _ (List.mem_of_getElem? (i := 14) rfl))) (g := (mkF m 33 #[.val (.long q1), .second, .val (.long v2), .second] [(.long v2)])) rfl (hb hby dA_33) _ ?_
      show Steps p.tables e below (s₁.setTop (mkF m 36 #[.val (.long q1), .second, .val (.long v2), .second] [(.long (2 : Int64)), (.long v2)])) _
      refine XS.lloadN X0.here hx rfl (hb hby dA_36) rfl ?_
      show Steps p.tables e below (s₁.setTop (mkF m 37 #[.val (.long q1), .second, .val (.long v2), .second] [(.long q1), (.long (2 : Int64)), (.long v2)])) _
      refine XS.lloadN X0.here hx rfl (hb hby dA_37) rfl ?_
      show Steps p.tables e below (s₁.setTop (mkF m 38 #[.val (.long q1), .second, .val (.long v2), .second] [(.long v2), (.long q1), (.long (2 : Int64)), (.long v2)])) _
      refine XS.lmul X0.here hx rfl (hb hby dA_38) rfl ?_
      show Steps p.tables e below (s₁.setTop (mkF m 39 #[.val (.long q1), .second, .val (.long v2), .second] [(.long (q1 * v2)), (.long (2 : Int64)), (.long v2)])) _
      refine XS.lsub X0.here hx rfl (hb hby dA_39) rfl ?_
      show Steps p.tables e below (s₁.setTop (mkF m 40 #[.val (.long q1), .second, .val (.long v2), .second] [(.long ((2 : Int64) - (q1 * v2))), (.long v2)])) _
      refine XS.lmul X0.here hx rfl (hb hby dA_40) rfl ?_
      show Steps p.tables e below (s₁.setTop (mkF m 41 #[.val (.long q1), .second, .val (.long v2), .second] [(.long (v2 * ((2 : Int64) - (q1 * v2))))])) _
      refine XS.lstoreN X0.here hx rfl (hb hby dA_41) rfl (l' := #[.val (.long q1), .second, .val (.long (v2 * ((2 : Int64) - (q1 * v2)))), .second]) rfl ?_
      show Steps p.tables e below (s₁.setTop (mkF m 42 #[.val (.long q1), .second, .val (.long (v2 * ((2 : Int64) - (q1 * v2)))), .second] [])) _
      exact k_)
  obtain ⟨v3, e_v3⟩ : ∃ z : Int64, z = own_st q1 v2 := ⟨_, rfl⟩
  have pre8 : ∀ t, Steps p.tables e below (s₁.setTop (mkF m 42 #[.val (.long q1), .second, .val (.long v3), .second] [])) t → Steps p.tables e below (s₁.setTop (entryFrame m #[(.long q1)] 4)) t := by subst e_v3; exact pre7
  have pre9 : ∀ t, Steps p.tables e below (s₁.setTop (mkF m 52 #[.val (.long q1), .second, .val (.long (v3 * ((2 : Int64) - (q1 * v3)))), .second] [])) t → Steps p.tables e below (s₁.setTop (entryFrame m #[(.long q1)] 4)) t := fun t_ k_ => pre8 t_ (by
      refine XS.lloadN X0.here hx rfl (hb hby dA_42) rfl ?_
      show Steps p.tables e below (s₁.setTop (mkF m 43 #[.val (.long q1), .second, .val (.long v3), .second] [(.long v3)])) _
      refine X0.ldc2Long hx hown (mvT hZ (hw _ (List.mem_of_getElem? (i := 14) rfl))) (g := (mkF m 43 #[.val (.long q1), .second, .val (.long v3), .second] [(.long v3)])) rfl (hb hby dA_43) _ ?_
      show Steps p.tables e below (s₁.setTop (mkF m 46 #[.val (.long q1), .second, .val (.long v3), .second] [(.long (2 : Int64)), (.long v3)])) _
      refine XS.lloadN X0.here hx rfl (hb hby dA_46) rfl ?_
      show Steps p.tables e below (s₁.setTop (mkF m 47 #[.val (.long q1), .second, .val (.long v3), .second] [(.long q1), (.long (2 : Int64)), (.long v3)])) _
      refine XS.lloadN X0.here hx rfl (hb hby dA_47) rfl ?_
      show Steps p.tables e below (s₁.setTop (mkF m 48 #[.val (.long q1), .second, .val (.long v3), .second] [(.long v3), (.long q1), (.long (2 : Int64)), (.long v3)])) _
      refine XS.lmul X0.here hx rfl (hb hby dA_48) rfl ?_
      show Steps p.tables e below (s₁.setTop (mkF m 49 #[.val (.long q1), .second, .val (.long v3), .second] [(.long (q1 * v3)), (.long (2 : Int64)), (.long v3)])) _
      refine XS.lsub X0.here hx rfl (hb hby dA_49) rfl ?_
      show Steps p.tables e below (s₁.setTop (mkF m 50 #[.val (.long q1), .second, .val (.long v3), .second] [(.long ((2 : Int64) - (q1 * v3))), (.long v3)])) _
      refine XS.lmul X0.here hx rfl (hb hby dA_50) rfl ?_
      show Steps p.tables e below (s₁.setTop (mkF m 51 #[.val (.long q1), .second, .val (.long v3), .second] [(.long (v3 * ((2 : Int64) - (q1 * v3))))])) _
      refine XS.lstoreN X0.here hx rfl (hb hby dA_51) rfl (l' := #[.val (.long q1), .second, .val (.long (v3 * ((2 : Int64) - (q1 * v3)))), .second]) rfl ?_
      show Steps p.tables e below (s₁.setTop (mkF m 52 #[.val (.long q1), .second, .val (.long (v3 * ((2 : Int64) - (q1 * v3)))), .second] [])) _
      exact k_)
  obtain ⟨v4, e_v4⟩ : ∃ z : Int64, z = own_st q1 v3 := ⟨_, rfl⟩
  have pre10 : ∀ t, Steps p.tables e below (s₁.setTop (mkF m 52 #[.val (.long q1), .second, .val (.long v4), .second] [])) t → Steps p.tables e below (s₁.setTop (entryFrame m #[(.long q1)] 4)) t := by subst e_v4; exact pre9
  have pre11 : ∀ t, Steps p.tables e below (s₁.setTop (mkF m 53 #[.val (.long q1), .second, .val (.long v4), .second] [(.long v4)])) t → Steps p.tables e below (s₁.setTop (entryFrame m #[(.long q1)] 4)) t := fun t_ k_ => pre10 t_ (by
      refine XS.lloadN X0.here hx rfl (hb hby dA_52) rfl ?_
      show Steps p.tables e below (s₁.setTop (mkF m 53 #[.val (.long q1), .second, .val (.long v4), .second] [(.long v4)])) _
      exact k_)
  obtain ⟨fs, hr, hrun, hended, hW, hsame⟩ := X0.leave (v := some (.long v4)) (fun h => by rw [Bd.returns] at h; cases h)
  refine ⟨_, _, pre11 _ ?_, hrun, hended, _, _, rfl, ?_, ⟨_, rfl⟩, hW, hsame.mono (by decide) (by decide)⟩
  · exact X0.lreturnOut hx Bd.returns (hb hby dA_53) hr
  · show QA Z q1 h0 n0 _ s₁.heap _
    rw [e0]
    exact ⟨by subst e_v4 e_v3 e_v2 e_v1 e_v0; rfl, N0, rfl⟩
theorem dB_0 : decode prog_8_method_13_code 0 = .ok (.lload_n 0, 1) := by decide +kernel
theorem dB_1 : decode prog_8_method_13_code 1 = .ok (.lload_n 0, 1) := by decide +kernel
theorem dB_2 : decode prog_8_method_13_code 2 = .ok (.bipush 30, 2) := by decide +kernel
theorem dB_4 : decode prog_8_method_13_code 4 = .ok (.lushr, 1) := by decide +kernel
theorem dB_5 : decode prog_8_method_13_code 5 = .ok (.lxor, 1) := by decide +kernel
theorem dB_6 : decode prog_8_method_13_code 6 = .ok (.ldc2_w 102, 3) := by decide +kernel
theorem dB_9 : decode prog_8_method_13_code 9 = .ok (.lmul, 1) := by decide +kernel
theorem dB_10 : decode prog_8_method_13_code 10 = .ok (.lstore_n 0, 1) := by decide +kernel
theorem dB_11 : decode prog_8_method_13_code 11 = .ok (.lload_n 0, 1) := by decide +kernel
theorem dB_12 : decode prog_8_method_13_code 12 = .ok (.lload_n 0, 1) := by decide +kernel
theorem dB_13 : decode prog_8_method_13_code 13 = .ok (.bipush 27, 2) := by decide +kernel
theorem dB_15 : decode prog_8_method_13_code 15 = .ok (.lushr, 1) := by decide +kernel
theorem dB_16 : decode prog_8_method_13_code 16 = .ok (.lxor, 1) := by decide +kernel
theorem dB_17 : decode prog_8_method_13_code 17 = .ok (.ldc2_w 104, 3) := by decide +kernel
theorem dB_20 : decode prog_8_method_13_code 20 = .ok (.lmul, 1) := by decide +kernel
theorem dB_21 : decode prog_8_method_13_code 21 = .ok (.lstore_n 0, 1) := by decide +kernel
theorem dB_22 : decode prog_8_method_13_code 22 = .ok (.lload_n 0, 1) := by decide +kernel
theorem dB_23 : decode prog_8_method_13_code 23 = .ok (.lload_n 0, 1) := by decide +kernel
theorem dB_24 : decode prog_8_method_13_code 24 = .ok (.bipush 31, 2) := by decide +kernel
theorem dB_26 : decode prog_8_method_13_code 26 = .ok (.lushr, 1) := by decide +kernel
theorem dB_27 : decode prog_8_method_13_code 27 = .ok (.lxor, 1) := by decide +kernel
theorem dB_28 : decode prog_8_method_13_code 28 = .ok (.lreturn, 1) := by decide +kernel
theorem pnB : plainName "hearsay/base/RandomStreams" = true := by first | (simp [plainName, overriddenIn]; done) | decide +kernel
theorem efB (m : MethodId) (q1 : Int64) : entryFrame m #[(.long q1)] 2 = mkF m 0 #[.val (.long q1), .second] [] := by first | (simp [entryFrame, mkF, argsToLocals, Value.category]; done) | rfl
def QB (Z : State) (q1 : Int64) (h0 : Heap) (n0 : Nat) (v : Option Value) (h : Heap) (L : List Loc) : Prop := v = some (.long (own_mix q1)) ∧ Fr n0 L ∧ h = h0
set_option maxRecDepth 65536 in
set_option maxHeartbeats 40000000 in
theorem rmB (l : Launch) (Z : State) (a0 : Array Value) (hw : ∀ d ∈ tables_1, d.before a0 Z = true) (ws : List Jvm.Cond) (q1 : Int64) (h0 : Heap) (n0 : Nat) (Z0 : n0 ≤ h0.size) :
    MetFree l (⟨"hearsay/base/RandomStreams", "mix", "(J)J"⟩ : MethodName) (head1 (Jvm.Cond.code (⟨"hearsay/base/RandomStreams", "mix", "(J)J"⟩ : MethodName) prog_8_method_13_code 2 (some .long) :: ws) ({ frames := 0, cells := 0, slots := 0, locals := 0 } : Room)) (fun a U => a = #[(.long q1)] ∧ Z.Warmed39 U.vm ∧ U.heap = h0) (fun _ _ _ _ _ => True) (fun _ U o U' => ∃ v L, o = .returned v ∧ QB Z q1 h0 n0 v U'.heap L ∧ FrameEnd U o U' L ({ frames := 0, cells := 0, slots := 0, locals := 0 } : Room).cells ({ frames := 0, cells := 0, slots := 0, locals := 0 } : Room).slots) := by
  refine MetFree.of_bodySF (plainFor_of_name pnB) hisR ?_
  intro p e s m args below meth c s₁ Bd hml0 hP hK
  obtain ⟨rfl, hZ, hh⟩ := hP
  have hx := Bd.exec
  have hby := Bd.bytes
  have hml : c.maxLocals = 2 := hml0
  have hown : s.vm.findClass "hearsay/base/RandomStreams" = some m.cls := findClass_of_methodNamed Bd.named
  have hnm := (name_of_methodNamed Bd.named Bd.method).1
  have X0 : Stand p l e ({ frames := 0, cells := 0, slots := 0, locals := 0 } : Room) s m #[(.long q1)] below meth c s₁ [] 0 0 := Stand.of_body Bd
  have e0 : s₁.heap = h0 := by rw [← hh, Bd.state]; rfl
  have N0 := Fr.nil n0
  have pre0 : ∀ t, Steps p.tables e below (s₁.setTop (mkF m 0 #[.val (.long q1), .second] [])) t → Steps p.tables e below (s₁.setTop (entryFrame m #[(.long q1)] 2)) t := fun t k => castTop (efB m q1) k
  have pre1 : ∀ t, Steps p.tables e below (s₁.setTop (mkF m 11 #[.val (.long ((q1 ^^^ ((q1.toUInt64 >>> ((30 : Int32) &&& 0x3f).toInt64.toUInt64).toInt64)) * (-4658895280553007687 : Int64))), .second] [])) t → Steps p.tables e below (s₁.setTop (entryFrame m #[(.long q1)] 2)) t := fun t_ k_ => pre0 t_ (by
      refine XS.lloadN X0.here hx rfl (hb hby dB_0) rfl ?_
      show Steps p.tables e below (s₁.setTop (mkF m 1 #[.val (.long q1), .second] [(.long q1)])) _
      refine XS.lloadN X0.here hx rfl (hb hby dB_1) rfl ?_
      show Steps p.tables e below (s₁.setTop (mkF m 2 #[.val (.long q1), .second] [(.long q1), (.long q1)])) _
      refine XS.bipush X0.here hx rfl (hb hby dB_2) ?_
      show Steps p.tables e below (s₁.setTop (mkF m 4 #[.val (.long q1), .second] [(.int (30 : Int32)), (.long q1), (.long q1)])) _
      refine XS.lushr X0.here hx rfl (hb hby dB_4) rfl ?_
      show Steps p.tables e below (s₁.setTop (mkF m 5 #[.val (.long q1), .second] [(.long ((q1.toUInt64 >>> ((30 : Int32) &&& 0x3f).toInt64.toUInt64).toInt64)), (.long q1)])) _
      refine XS.lxor X0.here hx rfl (hb hby dB_5) rfl ?_
      show Steps p.tables e below (s₁.setTop (mkF m 6 #[.val (.long q1), .second] [(.long (q1 ^^^ ((q1.toUInt64 >>> ((30 : Int32) &&& 0x3f).toInt64.toUInt64).toInt64)))])) _
      refine X0.ldc2Long hx hown (mvT hZ (hw _ (List.mem_of_getElem? (i := 4) rfl))) (g := (mkF m 6 #[.val (.long q1), .second] [(.long (q1 ^^^ ((q1.toUInt64 >>> ((30 : Int32) &&& 0x3f).toInt64.toUInt64).toInt64)))])) rfl (hb hby dB_6) _ ?_
      show Steps p.tables e below (s₁.setTop (mkF m 9 #[.val (.long q1), .second] [(.long (-4658895280553007687 : Int64)), (.long (q1 ^^^ ((q1.toUInt64 >>> ((30 : Int32) &&& 0x3f).toInt64.toUInt64).toInt64)))])) _
      refine XS.lmul X0.here hx rfl (hb hby dB_9) rfl ?_
      show Steps p.tables e below (s₁.setTop (mkF m 10 #[.val (.long q1), .second] [(.long ((q1 ^^^ ((q1.toUInt64 >>> ((30 : Int32) &&& 0x3f).toInt64.toUInt64).toInt64)) * (-4658895280553007687 : Int64)))])) _
      refine XS.lstoreN X0.here hx rfl (hb hby dB_10) rfl (l' := #[.val (.long ((q1 ^^^ ((q1.toUInt64 >>> ((30 : Int32) &&& 0x3f).toInt64.toUInt64).toInt64)) * (-4658895280553007687 : Int64))), .second]) rfl ?_
      show Steps p.tables e below (s₁.setTop (mkF m 11 #[.val (.long ((q1 ^^^ ((q1.toUInt64 >>> ((30 : Int32) &&& 0x3f).toInt64.toUInt64).toInt64)) * (-4658895280553007687 : Int64))), .second] [])) _
      exact k_)
  obtain ⟨v0, e_v0⟩ : ∃ z : Int64, z = own_x q1 (30 : Int32) * (-4658895280553007687 : Int64) := ⟨_, rfl⟩
  have pre2 : ∀ t, Steps p.tables e below (s₁.setTop (mkF m 11 #[.val (.long v0), .second] [])) t → Steps p.tables e below (s₁.setTop (entryFrame m #[(.long q1)] 2)) t := by subst e_v0; exact pre1
  have pre3 : ∀ t, Steps p.tables e below (s₁.setTop (mkF m 22 #[.val (.long ((v0 ^^^ ((v0.toUInt64 >>> ((27 : Int32) &&& 0x3f).toInt64.toUInt64).toInt64)) * (-7723592293110705685 : Int64))), .second] [])) t → Steps p.tables e below (s₁.setTop (entryFrame m #[(.long q1)] 2)) t := fun t_ k_ => pre2 t_ (by
      refine XS.lloadN X0.here hx rfl (hb hby dB_11) rfl ?_
      show Steps p.tables e below (s₁.setTop (mkF m 12 #[.val (.long v0), .second] [(.long v0)])) _
      refine XS.lloadN X0.here hx rfl (hb hby dB_12) rfl ?_
      show Steps p.tables e below (s₁.setTop (mkF m 13 #[.val (.long v0), .second] [(.long v0), (.long v0)])) _
      refine XS.bipush X0.here hx rfl (hb hby dB_13) ?_
      show Steps p.tables e below (s₁.setTop (mkF m 15 #[.val (.long v0), .second] [(.int (27 : Int32)), (.long v0), (.long v0)])) _
      refine XS.lushr X0.here hx rfl (hb hby dB_15) rfl ?_
      show Steps p.tables e below (s₁.setTop (mkF m 16 #[.val (.long v0), .second] [(.long ((v0.toUInt64 >>> ((27 : Int32) &&& 0x3f).toInt64.toUInt64).toInt64)), (.long v0)])) _
      refine XS.lxor X0.here hx rfl (hb hby dB_16) rfl ?_
      show Steps p.tables e below (s₁.setTop (mkF m 17 #[.val (.long v0), .second] [(.long (v0 ^^^ ((v0.toUInt64 >>> ((27 : Int32) &&& 0x3f).toInt64.toUInt64).toInt64)))])) _
      refine X0.ldc2Long hx hown (mvT hZ (hw _ (List.mem_of_getElem? (i := 5) rfl))) (g := (mkF m 17 #[.val (.long v0), .second] [(.long (v0 ^^^ ((v0.toUInt64 >>> ((27 : Int32) &&& 0x3f).toInt64.toUInt64).toInt64)))])) rfl (hb hby dB_17) _ ?_
      show Steps p.tables e below (s₁.setTop (mkF m 20 #[.val (.long v0), .second] [(.long (-7723592293110705685 : Int64)), (.long (v0 ^^^ ((v0.toUInt64 >>> ((27 : Int32) &&& 0x3f).toInt64.toUInt64).toInt64)))])) _
      refine XS.lmul X0.here hx rfl (hb hby dB_20) rfl ?_
      show Steps p.tables e below (s₁.setTop (mkF m 21 #[.val (.long v0), .second] [(.long ((v0 ^^^ ((v0.toUInt64 >>> ((27 : Int32) &&& 0x3f).toInt64.toUInt64).toInt64)) * (-7723592293110705685 : Int64)))])) _
      refine XS.lstoreN X0.here hx rfl (hb hby dB_21) rfl (l' := #[.val (.long ((v0 ^^^ ((v0.toUInt64 >>> ((27 : Int32) &&& 0x3f).toInt64.toUInt64).toInt64)) * (-7723592293110705685 : Int64))), .second]) rfl ?_
      show Steps p.tables e below (s₁.setTop (mkF m 22 #[.val (.long ((v0 ^^^ ((v0.toUInt64 >>> ((27 : Int32) &&& 0x3f).toInt64.toUInt64).toInt64)) * (-7723592293110705685 : Int64))), .second] [])) _
      exact k_)
  obtain ⟨v1, e_v1⟩ : ∃ z : Int64, z = own_x v0 (27 : Int32) * (-7723592293110705685 : Int64) := ⟨_, rfl⟩
  have pre4 : ∀ t, Steps p.tables e below (s₁.setTop (mkF m 22 #[.val (.long v1), .second] [])) t → Steps p.tables e below (s₁.setTop (entryFrame m #[(.long q1)] 2)) t := by subst e_v1; exact pre3
  have pre5 : ∀ t, Steps p.tables e below (s₁.setTop (mkF m 28 #[.val (.long v1), .second] [(.long (v1 ^^^ ((v1.toUInt64 >>> ((31 : Int32) &&& 0x3f).toInt64.toUInt64).toInt64)))])) t → Steps p.tables e below (s₁.setTop (entryFrame m #[(.long q1)] 2)) t := fun t_ k_ => pre4 t_ (by
      refine XS.lloadN X0.here hx rfl (hb hby dB_22) rfl ?_
      show Steps p.tables e below (s₁.setTop (mkF m 23 #[.val (.long v1), .second] [(.long v1)])) _
      refine XS.lloadN X0.here hx rfl (hb hby dB_23) rfl ?_
      show Steps p.tables e below (s₁.setTop (mkF m 24 #[.val (.long v1), .second] [(.long v1), (.long v1)])) _
      refine XS.bipush X0.here hx rfl (hb hby dB_24) ?_
      show Steps p.tables e below (s₁.setTop (mkF m 26 #[.val (.long v1), .second] [(.int (31 : Int32)), (.long v1), (.long v1)])) _
      refine XS.lushr X0.here hx rfl (hb hby dB_26) rfl ?_
      show Steps p.tables e below (s₁.setTop (mkF m 27 #[.val (.long v1), .second] [(.long ((v1.toUInt64 >>> ((31 : Int32) &&& 0x3f).toInt64.toUInt64).toInt64)), (.long v1)])) _
      refine XS.lxor X0.here hx rfl (hb hby dB_27) rfl ?_
      show Steps p.tables e below (s₁.setTop (mkF m 28 #[.val (.long v1), .second] [(.long (v1 ^^^ ((v1.toUInt64 >>> ((31 : Int32) &&& 0x3f).toInt64.toUInt64).toInt64)))])) _
      exact k_)
  obtain ⟨fs, hr, hrun, hended, hW, hsame⟩ := X0.leave (v := some (.long (v1 ^^^ ((v1.toUInt64 >>> ((31 : Int32) &&& 0x3f).toInt64.toUInt64).toInt64)))) (fun h => by rw [Bd.returns] at h; cases h)
  refine ⟨_, _, pre5 _ ?_, hrun, hended, _, _, rfl, ?_, ⟨_, rfl⟩, hW, hsame.mono (by decide) (by decide)⟩
  · exact X0.lreturnOut hx Bd.returns (hb hby dB_28) hr
  · show QB Z q1 h0 n0 _ s₁.heap _
    rw [e0]
    exact ⟨by subst e_v1 e_v0; rfl, N0, rfl⟩
theorem dU_0 : decode method_3_code 0 = .ok (.ldc2_w 9, 3) := by decide +kernel
theorem dU_3 : decode method_3_code 3 = .ok (.invokestatic 11, 3) := by decide +kernel
theorem dU_6 : decode method_3_code 6 = .ok (.lstore_n 2, 1) := by decide +kernel
theorem dU_7 : decode method_3_code 7 = .ok (.ldc2_w 17, 3) := by decide +kernel
theorem dU_10 : decode method_3_code 10 = .ok (.invokestatic 11, 3) := by decide +kernel
theorem dU_13 : decode method_3_code 13 = .ok (.lstore 4, 2) := by decide +kernel
theorem dU_15 : decode method_3_code 15 = .ok (.lload_n 0, 1) := by decide +kernel
theorem dU_16 : decode method_3_code 16 = .ok (.lload_n 0, 1) := by decide +kernel
theorem dU_17 : decode method_3_code 17 = .ok (.bipush 31, 2) := by decide +kernel
theorem dU_19 : decode method_3_code 19 = .ok (.lushr, 1) := by decide +kernel
theorem dU_20 : decode method_3_code 20 = .ok (.lxor, 1) := by decide +kernel
theorem dU_21 : decode method_3_code 21 = .ok (.lload_n 0, 1) := by decide +kernel
theorem dU_22 : decode method_3_code 22 = .ok (.bipush 62, 2) := by decide +kernel
theorem dU_24 : decode method_3_code 24 = .ok (.lushr, 1) := by decide +kernel
theorem dU_25 : decode method_3_code 25 = .ok (.lxor, 1) := by decide +kernel
theorem dU_26 : decode method_3_code 26 = .ok (.lstore_n 0, 1) := by decide +kernel
theorem dU_27 : decode method_3_code 27 = .ok (.lload_n 0, 1) := by decide +kernel
theorem dU_28 : decode method_3_code 28 = .ok (.lload 4, 2) := by decide +kernel
theorem dU_30 : decode method_3_code 30 = .ok (.lmul, 1) := by decide +kernel
theorem dU_31 : decode method_3_code 31 = .ok (.lstore_n 0, 1) := by decide +kernel
theorem dU_32 : decode method_3_code 32 = .ok (.lload_n 0, 1) := by decide +kernel
theorem dU_33 : decode method_3_code 33 = .ok (.lload_n 0, 1) := by decide +kernel
theorem dU_34 : decode method_3_code 34 = .ok (.bipush 27, 2) := by decide +kernel
theorem dU_36 : decode method_3_code 36 = .ok (.lushr, 1) := by decide +kernel
theorem dU_37 : decode method_3_code 37 = .ok (.lxor, 1) := by decide +kernel
theorem dU_38 : decode method_3_code 38 = .ok (.lload_n 0, 1) := by decide +kernel
theorem dU_39 : decode method_3_code 39 = .ok (.bipush 54, 2) := by decide +kernel
theorem dU_41 : decode method_3_code 41 = .ok (.lushr, 1) := by decide +kernel
theorem dU_42 : decode method_3_code 42 = .ok (.lxor, 1) := by decide +kernel
theorem dU_43 : decode method_3_code 43 = .ok (.lstore_n 0, 1) := by decide +kernel
theorem dU_44 : decode method_3_code 44 = .ok (.lload_n 0, 1) := by decide +kernel
theorem dU_45 : decode method_3_code 45 = .ok (.lload_n 2, 1) := by decide +kernel
theorem dU_46 : decode method_3_code 46 = .ok (.lmul, 1) := by decide +kernel
theorem dU_47 : decode method_3_code 47 = .ok (.lstore_n 0, 1) := by decide +kernel
theorem dU_48 : decode method_3_code 48 = .ok (.lload_n 0, 1) := by decide +kernel
theorem dU_49 : decode method_3_code 49 = .ok (.lload_n 0, 1) := by decide +kernel
theorem dU_50 : decode method_3_code 50 = .ok (.bipush 30, 2) := by decide +kernel
theorem dU_52 : decode method_3_code 52 = .ok (.lushr, 1) := by decide +kernel
theorem dU_53 : decode method_3_code 53 = .ok (.lxor, 1) := by decide +kernel
theorem dU_54 : decode method_3_code 54 = .ok (.lload_n 0, 1) := by decide +kernel
theorem dU_55 : decode method_3_code 55 = .ok (.bipush 60, 2) := by decide +kernel
theorem dU_57 : decode method_3_code 57 = .ok (.lushr, 1) := by decide +kernel
theorem dU_58 : decode method_3_code 58 = .ok (.lxor, 1) := by decide +kernel
theorem dU_59 : decode method_3_code 59 = .ok (.lreturn, 1) := by decide +kernel
theorem pdU_0 : parseMethodDescriptor "(J)J" = some ⟨[.long], some .long⟩ := by decide +kernel
theorem pnU : plainName "hearsay/base/RandomStreamsMixPinLaw" = true := by first | (simp [plainName, overriddenIn]; done) | decide +kernel
theorem efU (m : MethodId) (q1 : Int64) : entryFrame m #[(.long q1)] 6 = mkF m 0 #[.val (.long q1), .second, .unset, .unset, .unset, .unset] [] := by first | (simp [entryFrame, mkF, argsToLocals, Value.category]; done) | rfl
def QU (Z : State) (q1 : Int64) (h0 : Heap) (n0 : Nat) (v : Option Value) (h : Heap) (L : List Loc) : Prop := v = some (.long (own_un q1)) ∧ Fr n0 L ∧ h = h0
set_option maxRecDepth 65536 in
set_option maxHeartbeats 40000000 in
theorem rmU (l : Launch) (Z : State) (a0 : Array Value) (hw : ∀ d ∈ tables_1, d.before a0 Z = true) (ws : List Jvm.Cond) (q1 : Int64) (h0 : Heap) (n0 : Nat) (Z0 : n0 ≤ h0.size) :
    MetFree l (⟨"hearsay/base/RandomStreamsMixPinLaw", "unmix", "(J)J"⟩ : MethodName) (head1 (Jvm.Cond.code (⟨"hearsay/base/RandomStreamsMixPinLaw", "unmix", "(J)J"⟩ : MethodName) method_3_code 6 (some .long) :: ws) ({ frames := 1, cells := 0, slots := 0, locals := 15 } : Room)) (fun a U => a = #[(.long q1)] ∧ Z.Warmed39 U.vm ∧ U.heap = h0) (fun _ _ _ _ _ => True) (fun _ U o U' => ∃ v L, o = .returned v ∧ QU Z q1 h0 n0 v U'.heap L ∧ FrameEnd U o U' L ({ frames := 1, cells := 0, slots := 0, locals := 15 } : Room).cells ({ frames := 1, cells := 0, slots := 0, locals := 15 } : Room).slots) := by
  refine MetFree.of_bodySF (plainFor_of_name pnU) hisR ?_
  intro p e s m args below meth c s₁ Bd hml0 hP hK
  obtain ⟨rfl, hZ, hh⟩ := hP
  have hx := Bd.exec
  have hby := Bd.bytes
  have hml : c.maxLocals = 6 := hml0
  have hown : s.vm.findClass "hearsay/base/RandomStreamsMixPinLaw" = some m.cls := findClass_of_methodNamed Bd.named
  have hnm := (name_of_methodNamed Bd.named Bd.method).1
  have X0 : Stand p l e ({ frames := 1, cells := 0, slots := 0, locals := 15 } : Room) s m #[(.long q1)] below meth c s₁ [] 0 0 := Stand.of_body Bd
  have e0 : s₁.heap = h0 := by rw [← hh, Bd.state]; rfl
  have N0 := Fr.nil n0
  have pre0 : ∀ t, Steps p.tables e below (s₁.setTop (mkF m 0 #[.val (.long q1), .second, .unset, .unset, .unset, .unset] [])) t → Steps p.tables e below (s₁.setTop (entryFrame m #[(.long q1)] 6)) t := fun t k => castTop (efU m q1) k
  obtain ⟨_, _, ⟨T1, L1, k1, n1⟩, -, X1, ⟨Lc1, hQ1, l1, y1, z1⟩, st1⟩ := Jvm.LawKit.callS X0 hx (y := (⟨"hearsay/base/RandomStreamsMixPinLaw", "inverse", "(J)J"⟩ : MethodName)) hown (mvT hZ (hw _ (List.mem_of_getElem? (i := 11) rfl))) (mvT hZ (hw _ (List.mem_of_getElem? (i := 12) rfl))) (mvT hZ (hw _ (List.mem_of_getElem? (i := 8) rfl))) (mvT hZ (hw _ (List.mem_of_getElem? (i := 13) rfl))) (by decide) (backOf (W := 0) (rmA l Z a0 hw [] ((-4658895280553007687 : Int64))  h0 n0 Z0) hZ (hw _ (List.mem_of_getElem? (i := 13) rfl)) (hw _ (List.mem_of_getElem? (i := 8) rfl)) (by decide) (by decide)) (g := (mkF m 3 #[.val (.long q1), .second, .unset, .unset, .unset, .unset] [(.long (-4658895280553007687 : Int64))])) rfl (by rw [hml]; rfl) (argsL := [(.long (-4658895280553007687 : Int64))]) (rest := []) (lenOf pdU_0 rfl) rfl (by show 2 * 0 + _ ≤ _; exact Nat.le_of_eq rfl) (hb hby dU_3) (fun _ _ => ⟨rfl, e0, (by decide : 0 + 0 ≤ _), (by decide : 0 + 0 ≤ _)⟩)
  dsimp only [Pt.U, Pt.locs, Pt.cells, Pt.slots] at X1 l1 y1 z1 st1 hQ1
  subst l1 y1 z1
  obtain ⟨rfl, N1q, e1⟩ := hQ1
  have N1 := Fr.app N0 N1q
  obtain ⟨_, _, ⟨T2, L2, k2, n2⟩, -, X2, ⟨Lc2, hQ2, l2, y2, z2⟩, st2⟩ := Jvm.LawKit.callS X1 hx (y := (⟨"hearsay/base/RandomStreamsMixPinLaw", "inverse", "(J)J"⟩ : MethodName)) hown (mvT hZ (hw _ (List.mem_of_getElem? (i := 11) rfl))) (mvT hZ (hw _ (List.mem_of_getElem? (i := 12) rfl))) (mvT hZ (hw _ (List.mem_of_getElem? (i := 8) rfl))) (mvT hZ (hw _ (List.mem_of_getElem? (i := 13) rfl))) (by decide) (backOf (W := 0) (rmA l Z a0 hw [] ((-7723592293110705685 : Int64))  h0 n0 Z0) hZ (hw _ (List.mem_of_getElem? (i := 13) rfl)) (hw _ (List.mem_of_getElem? (i := 8) rfl)) (by decide) (by decide)) (g := (mkF m 10 #[.val (.long q1), .second, .val (.long (own_inv (-4658895280553007687 : Int64))), .second, .unset, .unset] [(.long (-7723592293110705685 : Int64))])) rfl (by rw [hml]; rfl) (argsL := [(.long (-7723592293110705685 : Int64))]) (rest := []) (lenOf pdU_0 rfl) rfl (by show 2 * 0 + _ ≤ _; exact Nat.le_of_eq rfl) (hb hby dU_10) (fun _ _ => ⟨rfl, e1, (by decide : 0 + 0 ≤ _), (by decide : 0 + 0 ≤ _)⟩)
  dsimp only [Pt.U, Pt.locs, Pt.cells, Pt.slots] at X2 l2 y2 z2 st2 hQ2
  subst l2 y2 z2
  obtain ⟨rfl, N2q, e2⟩ := hQ2
  have N2 := Fr.app N1 N2q
  have pre3 : ∀ t, Steps p.tables e below (T2.setTop (mkF m 27 #[.val (.long ((q1 ^^^ ((q1.toUInt64 >>> ((31 : Int32) &&& 0x3f).toInt64.toUInt64).toInt64)) ^^^ ((q1.toUInt64 >>> ((62 : Int32) &&& 0x3f).toInt64.toUInt64).toInt64))), .second, .val (.long (own_inv (-4658895280553007687 : Int64))), .second, .val (.long (own_inv (-7723592293110705685 : Int64))), .second] [])) t → Steps p.tables e below (s₁.setTop (entryFrame m #[(.long q1)] 6)) t := fun t_ k_ => pre0 t_ (by
      refine X0.ldc2Long hx hown (mvT hZ (hw _ (List.mem_of_getElem? (i := 10) rfl))) (g := (mkF m 0 #[.val (.long q1), .second, .unset, .unset, .unset, .unset] [])) rfl (hb hby dU_0) _ ?_
      show Steps p.tables e below (s₁.setTop (mkF m 3 #[.val (.long q1), .second, .unset, .unset, .unset, .unset] [(.long (-4658895280553007687 : Int64))])) _
      refine st1 _ ?_
      show Steps p.tables e below (T1.setTop (mkF m 6 #[.val (.long q1), .second, .unset, .unset, .unset, .unset] [(.long (own_inv (-4658895280553007687 : Int64)))])) _
      refine XS.lstoreN X1.here hx rfl (hb hby dU_6) rfl (l' := #[.val (.long q1), .second, .val (.long (own_inv (-4658895280553007687 : Int64))), .second, .unset, .unset]) rfl ?_
      show Steps p.tables e below (T1.setTop (mkF m 7 #[.val (.long q1), .second, .val (.long (own_inv (-4658895280553007687 : Int64))), .second, .unset, .unset] [])) _
      refine X1.ldc2Long hx hown (mvT hZ (hw _ (List.mem_of_getElem? (i := 15) rfl))) (g := (mkF m 7 #[.val (.long q1), .second, .val (.long (own_inv (-4658895280553007687 : Int64))), .second, .unset, .unset] [])) rfl (hb hby dU_7) _ ?_
      show Steps p.tables e below (T1.setTop (mkF m 10 #[.val (.long q1), .second, .val (.long (own_inv (-4658895280553007687 : Int64))), .second, .unset, .unset] [(.long (-7723592293110705685 : Int64))])) _
      refine st2 _ ?_
      show Steps p.tables e below (T2.setTop (mkF m 13 #[.val (.long q1), .second, .val (.long (own_inv (-4658895280553007687 : Int64))), .second, .unset, .unset] [(.long (own_inv (-7723592293110705685 : Int64)))])) _
      refine XS.lstore X2.here hx rfl (hb hby dU_13) rfl (l' := #[.val (.long q1), .second, .val (.long (own_inv (-4658895280553007687 : Int64))), .second, .val (.long (own_inv (-7723592293110705685 : Int64))), .second]) rfl ?_
      show Steps p.tables e below (T2.setTop (mkF m 15 #[.val (.long q1), .second, .val (.long (own_inv (-4658895280553007687 : Int64))), .second, .val (.long (own_inv (-7723592293110705685 : Int64))), .second] [])) _
      refine XS.lloadN X2.here hx rfl (hb hby dU_15) rfl ?_
      show Steps p.tables e below (T2.setTop (mkF m 16 #[.val (.long q1), .second, .val (.long (own_inv (-4658895280553007687 : Int64))), .second, .val (.long (own_inv (-7723592293110705685 : Int64))), .second] [(.long q1)])) _
      refine XS.lloadN X2.here hx rfl (hb hby dU_16) rfl ?_
      show Steps p.tables e below (T2.setTop (mkF m 17 #[.val (.long q1), .second, .val (.long (own_inv (-4658895280553007687 : Int64))), .second, .val (.long (own_inv (-7723592293110705685 : Int64))), .second] [(.long q1), (.long q1)])) _
      refine XS.bipush X2.here hx rfl (hb hby dU_17) ?_
      show Steps p.tables e below (T2.setTop (mkF m 19 #[.val (.long q1), .second, .val (.long (own_inv (-4658895280553007687 : Int64))), .second, .val (.long (own_inv (-7723592293110705685 : Int64))), .second] [(.int (31 : Int32)), (.long q1), (.long q1)])) _
      refine XS.lushr X2.here hx rfl (hb hby dU_19) rfl ?_
      show Steps p.tables e below (T2.setTop (mkF m 20 #[.val (.long q1), .second, .val (.long (own_inv (-4658895280553007687 : Int64))), .second, .val (.long (own_inv (-7723592293110705685 : Int64))), .second] [(.long ((q1.toUInt64 >>> ((31 : Int32) &&& 0x3f).toInt64.toUInt64).toInt64)), (.long q1)])) _
      refine XS.lxor X2.here hx rfl (hb hby dU_20) rfl ?_
      show Steps p.tables e below (T2.setTop (mkF m 21 #[.val (.long q1), .second, .val (.long (own_inv (-4658895280553007687 : Int64))), .second, .val (.long (own_inv (-7723592293110705685 : Int64))), .second] [(.long (q1 ^^^ ((q1.toUInt64 >>> ((31 : Int32) &&& 0x3f).toInt64.toUInt64).toInt64)))])) _
      refine XS.lloadN X2.here hx rfl (hb hby dU_21) rfl ?_
      show Steps p.tables e below (T2.setTop (mkF m 22 #[.val (.long q1), .second, .val (.long (own_inv (-4658895280553007687 : Int64))), .second, .val (.long (own_inv (-7723592293110705685 : Int64))), .second] [(.long q1), (.long (q1 ^^^ ((q1.toUInt64 >>> ((31 : Int32) &&& 0x3f).toInt64.toUInt64).toInt64)))])) _
      refine XS.bipush X2.here hx rfl (hb hby dU_22) ?_
      show Steps p.tables e below (T2.setTop (mkF m 24 #[.val (.long q1), .second, .val (.long (own_inv (-4658895280553007687 : Int64))), .second, .val (.long (own_inv (-7723592293110705685 : Int64))), .second] [(.int (62 : Int32)), (.long q1), (.long (q1 ^^^ ((q1.toUInt64 >>> ((31 : Int32) &&& 0x3f).toInt64.toUInt64).toInt64)))])) _
      refine XS.lushr X2.here hx rfl (hb hby dU_24) rfl ?_
      show Steps p.tables e below (T2.setTop (mkF m 25 #[.val (.long q1), .second, .val (.long (own_inv (-4658895280553007687 : Int64))), .second, .val (.long (own_inv (-7723592293110705685 : Int64))), .second] [(.long ((q1.toUInt64 >>> ((62 : Int32) &&& 0x3f).toInt64.toUInt64).toInt64)), (.long (q1 ^^^ ((q1.toUInt64 >>> ((31 : Int32) &&& 0x3f).toInt64.toUInt64).toInt64)))])) _
      refine XS.lxor X2.here hx rfl (hb hby dU_25) rfl ?_
      show Steps p.tables e below (T2.setTop (mkF m 26 #[.val (.long q1), .second, .val (.long (own_inv (-4658895280553007687 : Int64))), .second, .val (.long (own_inv (-7723592293110705685 : Int64))), .second] [(.long ((q1 ^^^ ((q1.toUInt64 >>> ((31 : Int32) &&& 0x3f).toInt64.toUInt64).toInt64)) ^^^ ((q1.toUInt64 >>> ((62 : Int32) &&& 0x3f).toInt64.toUInt64).toInt64)))])) _
      refine XS.lstoreN X2.here hx rfl (hb hby dU_26) rfl (l' := #[.val (.long ((q1 ^^^ ((q1.toUInt64 >>> ((31 : Int32) &&& 0x3f).toInt64.toUInt64).toInt64)) ^^^ ((q1.toUInt64 >>> ((62 : Int32) &&& 0x3f).toInt64.toUInt64).toInt64))), .second, .val (.long (own_inv (-4658895280553007687 : Int64))), .second, .val (.long (own_inv (-7723592293110705685 : Int64))), .second]) rfl ?_
      show Steps p.tables e below (T2.setTop (mkF m 27 #[.val (.long ((q1 ^^^ ((q1.toUInt64 >>> ((31 : Int32) &&& 0x3f).toInt64.toUInt64).toInt64)) ^^^ ((q1.toUInt64 >>> ((62 : Int32) &&& 0x3f).toInt64.toUInt64).toInt64))), .second, .val (.long (own_inv (-4658895280553007687 : Int64))), .second, .val (.long (own_inv (-7723592293110705685 : Int64))), .second] [])) _
      exact k_)
  obtain ⟨v0, e_v0⟩ : ∃ z : Int64, z = own_y q1 (31 : Int32) (62 : Int32) := ⟨_, rfl⟩
  have pre4 : ∀ t, Steps p.tables e below (T2.setTop (mkF m 27 #[.val (.long v0), .second, .val (.long (own_inv (-4658895280553007687 : Int64))), .second, .val (.long (own_inv (-7723592293110705685 : Int64))), .second] [])) t → Steps p.tables e below (s₁.setTop (entryFrame m #[(.long q1)] 6)) t := by subst e_v0; exact pre3
  have pre5 : ∀ t, Steps p.tables e below (T2.setTop (mkF m 32 #[.val (.long (v0 * (own_inv (-7723592293110705685 : Int64)))), .second, .val (.long (own_inv (-4658895280553007687 : Int64))), .second, .val (.long (own_inv (-7723592293110705685 : Int64))), .second] [])) t → Steps p.tables e below (s₁.setTop (entryFrame m #[(.long q1)] 6)) t := fun t_ k_ => pre4 t_ (by
      refine XS.lloadN X2.here hx rfl (hb hby dU_27) rfl ?_
      show Steps p.tables e below (T2.setTop (mkF m 28 #[.val (.long v0), .second, .val (.long (own_inv (-4658895280553007687 : Int64))), .second, .val (.long (own_inv (-7723592293110705685 : Int64))), .second] [(.long v0)])) _
      refine XS.lload X2.here hx rfl (hb hby dU_28) rfl ?_
      show Steps p.tables e below (T2.setTop (mkF m 30 #[.val (.long v0), .second, .val (.long (own_inv (-4658895280553007687 : Int64))), .second, .val (.long (own_inv (-7723592293110705685 : Int64))), .second] [(.long (own_inv (-7723592293110705685 : Int64))), (.long v0)])) _
      refine XS.lmul X2.here hx rfl (hb hby dU_30) rfl ?_
      show Steps p.tables e below (T2.setTop (mkF m 31 #[.val (.long v0), .second, .val (.long (own_inv (-4658895280553007687 : Int64))), .second, .val (.long (own_inv (-7723592293110705685 : Int64))), .second] [(.long (v0 * (own_inv (-7723592293110705685 : Int64))))])) _
      refine XS.lstoreN X2.here hx rfl (hb hby dU_31) rfl (l' := #[.val (.long (v0 * (own_inv (-7723592293110705685 : Int64)))), .second, .val (.long (own_inv (-4658895280553007687 : Int64))), .second, .val (.long (own_inv (-7723592293110705685 : Int64))), .second]) rfl ?_
      show Steps p.tables e below (T2.setTop (mkF m 32 #[.val (.long (v0 * (own_inv (-7723592293110705685 : Int64)))), .second, .val (.long (own_inv (-4658895280553007687 : Int64))), .second, .val (.long (own_inv (-7723592293110705685 : Int64))), .second] [])) _
      exact k_)
  obtain ⟨v1, e_v1⟩ : ∃ z : Int64, z = v0 * own_inv (-7723592293110705685 : Int64) := ⟨_, rfl⟩
  have pre6 : ∀ t, Steps p.tables e below (T2.setTop (mkF m 32 #[.val (.long v1), .second, .val (.long (own_inv (-4658895280553007687 : Int64))), .second, .val (.long (own_inv (-7723592293110705685 : Int64))), .second] [])) t → Steps p.tables e below (s₁.setTop (entryFrame m #[(.long q1)] 6)) t := by subst e_v1; exact pre5
  have pre7 : ∀ t, Steps p.tables e below (T2.setTop (mkF m 44 #[.val (.long ((v1 ^^^ ((v1.toUInt64 >>> ((27 : Int32) &&& 0x3f).toInt64.toUInt64).toInt64)) ^^^ ((v1.toUInt64 >>> ((54 : Int32) &&& 0x3f).toInt64.toUInt64).toInt64))), .second, .val (.long (own_inv (-4658895280553007687 : Int64))), .second, .val (.long (own_inv (-7723592293110705685 : Int64))), .second] [])) t → Steps p.tables e below (s₁.setTop (entryFrame m #[(.long q1)] 6)) t := fun t_ k_ => pre6 t_ (by
      refine XS.lloadN X2.here hx rfl (hb hby dU_32) rfl ?_
      show Steps p.tables e below (T2.setTop (mkF m 33 #[.val (.long v1), .second, .val (.long (own_inv (-4658895280553007687 : Int64))), .second, .val (.long (own_inv (-7723592293110705685 : Int64))), .second] [(.long v1)])) _
      refine XS.lloadN X2.here hx rfl (hb hby dU_33) rfl ?_
      show Steps p.tables e below (T2.setTop (mkF m 34 #[.val (.long v1), .second, .val (.long (own_inv (-4658895280553007687 : Int64))), .second, .val (.long (own_inv (-7723592293110705685 : Int64))), .second] [(.long v1), (.long v1)])) _
      refine XS.bipush X2.here hx rfl (hb hby dU_34) ?_
      show Steps p.tables e below (T2.setTop (mkF m 36 #[.val (.long v1), .second, .val (.long (own_inv (-4658895280553007687 : Int64))), .second, .val (.long (own_inv (-7723592293110705685 : Int64))), .second] [(.int (27 : Int32)), (.long v1), (.long v1)])) _
      refine XS.lushr X2.here hx rfl (hb hby dU_36) rfl ?_
      show Steps p.tables e below (T2.setTop (mkF m 37 #[.val (.long v1), .second, .val (.long (own_inv (-4658895280553007687 : Int64))), .second, .val (.long (own_inv (-7723592293110705685 : Int64))), .second] [(.long ((v1.toUInt64 >>> ((27 : Int32) &&& 0x3f).toInt64.toUInt64).toInt64)), (.long v1)])) _
      refine XS.lxor X2.here hx rfl (hb hby dU_37) rfl ?_
      show Steps p.tables e below (T2.setTop (mkF m 38 #[.val (.long v1), .second, .val (.long (own_inv (-4658895280553007687 : Int64))), .second, .val (.long (own_inv (-7723592293110705685 : Int64))), .second] [(.long (v1 ^^^ ((v1.toUInt64 >>> ((27 : Int32) &&& 0x3f).toInt64.toUInt64).toInt64)))])) _
      refine XS.lloadN X2.here hx rfl (hb hby dU_38) rfl ?_
      show Steps p.tables e below (T2.setTop (mkF m 39 #[.val (.long v1), .second, .val (.long (own_inv (-4658895280553007687 : Int64))), .second, .val (.long (own_inv (-7723592293110705685 : Int64))), .second] [(.long v1), (.long (v1 ^^^ ((v1.toUInt64 >>> ((27 : Int32) &&& 0x3f).toInt64.toUInt64).toInt64)))])) _
      refine XS.bipush X2.here hx rfl (hb hby dU_39) ?_
      show Steps p.tables e below (T2.setTop (mkF m 41 #[.val (.long v1), .second, .val (.long (own_inv (-4658895280553007687 : Int64))), .second, .val (.long (own_inv (-7723592293110705685 : Int64))), .second] [(.int (54 : Int32)), (.long v1), (.long (v1 ^^^ ((v1.toUInt64 >>> ((27 : Int32) &&& 0x3f).toInt64.toUInt64).toInt64)))])) _
      refine XS.lushr X2.here hx rfl (hb hby dU_41) rfl ?_
      show Steps p.tables e below (T2.setTop (mkF m 42 #[.val (.long v1), .second, .val (.long (own_inv (-4658895280553007687 : Int64))), .second, .val (.long (own_inv (-7723592293110705685 : Int64))), .second] [(.long ((v1.toUInt64 >>> ((54 : Int32) &&& 0x3f).toInt64.toUInt64).toInt64)), (.long (v1 ^^^ ((v1.toUInt64 >>> ((27 : Int32) &&& 0x3f).toInt64.toUInt64).toInt64)))])) _
      refine XS.lxor X2.here hx rfl (hb hby dU_42) rfl ?_
      show Steps p.tables e below (T2.setTop (mkF m 43 #[.val (.long v1), .second, .val (.long (own_inv (-4658895280553007687 : Int64))), .second, .val (.long (own_inv (-7723592293110705685 : Int64))), .second] [(.long ((v1 ^^^ ((v1.toUInt64 >>> ((27 : Int32) &&& 0x3f).toInt64.toUInt64).toInt64)) ^^^ ((v1.toUInt64 >>> ((54 : Int32) &&& 0x3f).toInt64.toUInt64).toInt64)))])) _
      refine XS.lstoreN X2.here hx rfl (hb hby dU_43) rfl (l' := #[.val (.long ((v1 ^^^ ((v1.toUInt64 >>> ((27 : Int32) &&& 0x3f).toInt64.toUInt64).toInt64)) ^^^ ((v1.toUInt64 >>> ((54 : Int32) &&& 0x3f).toInt64.toUInt64).toInt64))), .second, .val (.long (own_inv (-4658895280553007687 : Int64))), .second, .val (.long (own_inv (-7723592293110705685 : Int64))), .second]) rfl ?_
      show Steps p.tables e below (T2.setTop (mkF m 44 #[.val (.long ((v1 ^^^ ((v1.toUInt64 >>> ((27 : Int32) &&& 0x3f).toInt64.toUInt64).toInt64)) ^^^ ((v1.toUInt64 >>> ((54 : Int32) &&& 0x3f).toInt64.toUInt64).toInt64))), .second, .val (.long (own_inv (-4658895280553007687 : Int64))), .second, .val (.long (own_inv (-7723592293110705685 : Int64))), .second] [])) _
      exact k_)
  obtain ⟨v2, e_v2⟩ : ∃ z : Int64, z = own_y v1 (27 : Int32) (54 : Int32) := ⟨_, rfl⟩
  have pre8 : ∀ t, Steps p.tables e below (T2.setTop (mkF m 44 #[.val (.long v2), .second, .val (.long (own_inv (-4658895280553007687 : Int64))), .second, .val (.long (own_inv (-7723592293110705685 : Int64))), .second] [])) t → Steps p.tables e below (s₁.setTop (entryFrame m #[(.long q1)] 6)) t := by subst e_v2; exact pre7
  have pre9 : ∀ t, Steps p.tables e below (T2.setTop (mkF m 48 #[.val (.long (v2 * (own_inv (-4658895280553007687 : Int64)))), .second, .val (.long (own_inv (-4658895280553007687 : Int64))), .second, .val (.long (own_inv (-7723592293110705685 : Int64))), .second] [])) t → Steps p.tables e below (s₁.setTop (entryFrame m #[(.long q1)] 6)) t := fun t_ k_ => pre8 t_ (by
      refine XS.lloadN X2.here hx rfl (hb hby dU_44) rfl ?_
      show Steps p.tables e below (T2.setTop (mkF m 45 #[.val (.long v2), .second, .val (.long (own_inv (-4658895280553007687 : Int64))), .second, .val (.long (own_inv (-7723592293110705685 : Int64))), .second] [(.long v2)])) _
      refine XS.lloadN X2.here hx rfl (hb hby dU_45) rfl ?_
      show Steps p.tables e below (T2.setTop (mkF m 46 #[.val (.long v2), .second, .val (.long (own_inv (-4658895280553007687 : Int64))), .second, .val (.long (own_inv (-7723592293110705685 : Int64))), .second] [(.long (own_inv (-4658895280553007687 : Int64))), (.long v2)])) _
      refine XS.lmul X2.here hx rfl (hb hby dU_46) rfl ?_
      show Steps p.tables e below (T2.setTop (mkF m 47 #[.val (.long v2), .second, .val (.long (own_inv (-4658895280553007687 : Int64))), .second, .val (.long (own_inv (-7723592293110705685 : Int64))), .second] [(.long (v2 * (own_inv (-4658895280553007687 : Int64))))])) _
      refine XS.lstoreN X2.here hx rfl (hb hby dU_47) rfl (l' := #[.val (.long (v2 * (own_inv (-4658895280553007687 : Int64)))), .second, .val (.long (own_inv (-4658895280553007687 : Int64))), .second, .val (.long (own_inv (-7723592293110705685 : Int64))), .second]) rfl ?_
      show Steps p.tables e below (T2.setTop (mkF m 48 #[.val (.long (v2 * (own_inv (-4658895280553007687 : Int64)))), .second, .val (.long (own_inv (-4658895280553007687 : Int64))), .second, .val (.long (own_inv (-7723592293110705685 : Int64))), .second] [])) _
      exact k_)
  obtain ⟨v3, e_v3⟩ : ∃ z : Int64, z = v2 * own_inv (-4658895280553007687 : Int64) := ⟨_, rfl⟩
  have pre10 : ∀ t, Steps p.tables e below (T2.setTop (mkF m 48 #[.val (.long v3), .second, .val (.long (own_inv (-4658895280553007687 : Int64))), .second, .val (.long (own_inv (-7723592293110705685 : Int64))), .second] [])) t → Steps p.tables e below (s₁.setTop (entryFrame m #[(.long q1)] 6)) t := by subst e_v3; exact pre9
  have pre11 : ∀ t, Steps p.tables e below (T2.setTop (mkF m 59 #[.val (.long v3), .second, .val (.long (own_inv (-4658895280553007687 : Int64))), .second, .val (.long (own_inv (-7723592293110705685 : Int64))), .second] [(.long ((v3 ^^^ ((v3.toUInt64 >>> ((30 : Int32) &&& 0x3f).toInt64.toUInt64).toInt64)) ^^^ ((v3.toUInt64 >>> ((60 : Int32) &&& 0x3f).toInt64.toUInt64).toInt64)))])) t → Steps p.tables e below (s₁.setTop (entryFrame m #[(.long q1)] 6)) t := fun t_ k_ => pre10 t_ (by
      refine XS.lloadN X2.here hx rfl (hb hby dU_48) rfl ?_
      show Steps p.tables e below (T2.setTop (mkF m 49 #[.val (.long v3), .second, .val (.long (own_inv (-4658895280553007687 : Int64))), .second, .val (.long (own_inv (-7723592293110705685 : Int64))), .second] [(.long v3)])) _
      refine XS.lloadN X2.here hx rfl (hb hby dU_49) rfl ?_
      show Steps p.tables e below (T2.setTop (mkF m 50 #[.val (.long v3), .second, .val (.long (own_inv (-4658895280553007687 : Int64))), .second, .val (.long (own_inv (-7723592293110705685 : Int64))), .second] [(.long v3), (.long v3)])) _
      refine XS.bipush X2.here hx rfl (hb hby dU_50) ?_
      show Steps p.tables e below (T2.setTop (mkF m 52 #[.val (.long v3), .second, .val (.long (own_inv (-4658895280553007687 : Int64))), .second, .val (.long (own_inv (-7723592293110705685 : Int64))), .second] [(.int (30 : Int32)), (.long v3), (.long v3)])) _
      refine XS.lushr X2.here hx rfl (hb hby dU_52) rfl ?_
      show Steps p.tables e below (T2.setTop (mkF m 53 #[.val (.long v3), .second, .val (.long (own_inv (-4658895280553007687 : Int64))), .second, .val (.long (own_inv (-7723592293110705685 : Int64))), .second] [(.long ((v3.toUInt64 >>> ((30 : Int32) &&& 0x3f).toInt64.toUInt64).toInt64)), (.long v3)])) _
      refine XS.lxor X2.here hx rfl (hb hby dU_53) rfl ?_
      show Steps p.tables e below (T2.setTop (mkF m 54 #[.val (.long v3), .second, .val (.long (own_inv (-4658895280553007687 : Int64))), .second, .val (.long (own_inv (-7723592293110705685 : Int64))), .second] [(.long (v3 ^^^ ((v3.toUInt64 >>> ((30 : Int32) &&& 0x3f).toInt64.toUInt64).toInt64)))])) _
      refine XS.lloadN X2.here hx rfl (hb hby dU_54) rfl ?_
      show Steps p.tables e below (T2.setTop (mkF m 55 #[.val (.long v3), .second, .val (.long (own_inv (-4658895280553007687 : Int64))), .second, .val (.long (own_inv (-7723592293110705685 : Int64))), .second] [(.long v3), (.long (v3 ^^^ ((v3.toUInt64 >>> ((30 : Int32) &&& 0x3f).toInt64.toUInt64).toInt64)))])) _
      refine XS.bipush X2.here hx rfl (hb hby dU_55) ?_
      show Steps p.tables e below (T2.setTop (mkF m 57 #[.val (.long v3), .second, .val (.long (own_inv (-4658895280553007687 : Int64))), .second, .val (.long (own_inv (-7723592293110705685 : Int64))), .second] [(.int (60 : Int32)), (.long v3), (.long (v3 ^^^ ((v3.toUInt64 >>> ((30 : Int32) &&& 0x3f).toInt64.toUInt64).toInt64)))])) _
      refine XS.lushr X2.here hx rfl (hb hby dU_57) rfl ?_
      show Steps p.tables e below (T2.setTop (mkF m 58 #[.val (.long v3), .second, .val (.long (own_inv (-4658895280553007687 : Int64))), .second, .val (.long (own_inv (-7723592293110705685 : Int64))), .second] [(.long ((v3.toUInt64 >>> ((60 : Int32) &&& 0x3f).toInt64.toUInt64).toInt64)), (.long (v3 ^^^ ((v3.toUInt64 >>> ((30 : Int32) &&& 0x3f).toInt64.toUInt64).toInt64)))])) _
      refine XS.lxor X2.here hx rfl (hb hby dU_58) rfl ?_
      show Steps p.tables e below (T2.setTop (mkF m 59 #[.val (.long v3), .second, .val (.long (own_inv (-4658895280553007687 : Int64))), .second, .val (.long (own_inv (-7723592293110705685 : Int64))), .second] [(.long ((v3 ^^^ ((v3.toUInt64 >>> ((30 : Int32) &&& 0x3f).toInt64.toUInt64).toInt64)) ^^^ ((v3.toUInt64 >>> ((60 : Int32) &&& 0x3f).toInt64.toUInt64).toInt64)))])) _
      exact k_)
  obtain ⟨fs, hr, hrun, hended, hW, hsame⟩ := X2.leave (v := some (.long ((v3 ^^^ ((v3.toUInt64 >>> ((30 : Int32) &&& 0x3f).toInt64.toUInt64).toInt64)) ^^^ ((v3.toUInt64 >>> ((60 : Int32) &&& 0x3f).toInt64.toUInt64).toInt64)))) (fun h => by rw [Bd.returns] at h; cases h)
  refine ⟨_, _, pre11 _ ?_, hrun, hended, _, _, rfl, ?_, ⟨_, rfl⟩, hW, hsame.mono (by decide) (by decide)⟩
  · exact X2.lreturnOut hx Bd.returns (hb hby dU_59) hr
  · show QU Z q1 h0 n0 _ T2.heap _
    rw [e2]
    exact ⟨by subst e_v3 e_v2 e_v1 e_v0; rfl, N2, rfl⟩
theorem pd0_0 : parseMethodDescriptor "(J)J" = some ⟨[.long], some .long⟩ := by decide +kernel
theorem pn0 : plainName "hearsay/base/RandomStreamsMixPinLaw" = true := by first | (simp [plainName, overriddenIn]; done) | decide +kernel
theorem ef0 (m : MethodId) (q0 : Int64) (q1 : Int64) : entryFrame m #[(.long q0), (.long q1)] maxLocals = mkF m 0 #[.val (.long q0), .second, .val (.long q1), .second, .unset, .unset] [] := by first | (simp [entryFrame, mkF, argsToLocals, Value.category, maxLocals]; done) | rfl
def Q0 (Z : State) (q0 : Int64) (q1 : Int64) (h0 : Heap) (n0 : Nat) (v : Option Value) (h : Heap) (L : List Loc) : Prop := v = some (.int 1) ∧ Fr n0 L
set_option maxRecDepth 65536 in
set_option maxHeartbeats 40000000 in
theorem rm0 (l : Launch) (Z : State) (a0 : Array Value) (hw : ∀ d ∈ tables_1, d.before a0 Z = true) (ws : List Jvm.Cond) (q0 : Int64) (q1 : Int64) (h0 : Heap) (n0 : Nat) (Z0 : n0 ≤ h0.size) :
    MetFree l x (head1 (Jvm.Cond.code x code maxLocals ret :: ws) room_1) (fun a U => a = #[(.long q0), (.long q1)] ∧ Z.Warmed39 U.vm ∧ U.heap = h0) (fun _ _ _ _ _ => True) (fun _ U o U' => ∃ v L, o = .returned v ∧ Q0 Z q0 q1 h0 n0 v U'.heap L ∧ FrameEnd U o U' L room_1.cells room_1.slots) := by
  refine MetFree.of_bodySF (plainFor_of_name pn0) hisR ?_
  intro p e s m args below meth c s₁ Bd hml0 hP hK
  obtain ⟨rfl, hZ, hh⟩ := hP
  have hx := Bd.exec
  have hby := Bd.bytes
  have hml : c.maxLocals = 6 := hml0
  have hown : s.vm.findClass "hearsay/base/RandomStreamsMixPinLaw" = some m.cls := findClass_of_methodNamed Bd.named
  have hnm := (name_of_methodNamed Bd.named Bd.method).1
  have X0 : Stand p l e room_1 s m #[(.long q0), (.long q1)] below meth c s₁ [] 0 0 := Stand.of_body Bd
  have e0 : s₁.heap = h0 := by rw [← hh, Bd.state]; rfl
  have N0 := Fr.nil n0
  have pre0 : ∀ t, Steps p.tables e below (s₁.setTop (mkF m 0 #[.val (.long q0), .second, .val (.long q1), .second, .unset, .unset] [])) t → Steps p.tables e below (s₁.setTop (entryFrame m #[(.long q0), (.long q1)] maxLocals)) t := fun t k => castTop (ef0 m q0 q1) k
  obtain ⟨_, _, ⟨T1, L1, k1, n1⟩, -, X1, ⟨Lc1, hQ1, l1, y1, z1⟩, st1⟩ := Jvm.LawKit.callS X0 hx (y := (⟨"hearsay/base/RandomStreams", "mix", "(J)J"⟩ : MethodName)) hown (mvT hZ (hw _ (List.mem_of_getElem? (i := 0) rfl))) (mvT hZ (hw _ (List.mem_of_getElem? (i := 1) rfl))) (mvT hZ (hw _ (List.mem_of_getElem? (i := 2) rfl))) (mvT hZ (hw _ (List.mem_of_getElem? (i := 3) rfl))) (by decide) (backOf (W := 0) (rmB l Z a0 hw [] q0  h0 n0 Z0) hZ (hw _ (List.mem_of_getElem? (i := 3) rfl)) (hw _ (List.mem_of_getElem? (i := 2) rfl)) (by decide) (by decide)) (g := (mkF m 1 #[.val (.long q0), .second, .val (.long q1), .second, .unset, .unset] [(.long q0)])) rfl (by rw [hml]; rfl) (argsL := [(.long q0)]) (rest := []) (lenOf pd0_0 rfl) rfl (by show 2 * 0 + _ ≤ _; exact Nat.le_of_eq rfl) (hb hby at_1) (fun _ _ => ⟨rfl, e0, (by decide : 0 + 0 ≤ _), (by decide : 0 + 0 ≤ _)⟩)
  dsimp only [Pt.U, Pt.locs, Pt.cells, Pt.slots] at X1 l1 y1 z1 st1 hQ1
  subst l1 y1 z1
  obtain ⟨rfl, N1q, e1⟩ := hQ1
  have N1 := Fr.app N0 N1q
  obtain ⟨_, _, ⟨T2, L2, k2, n2⟩, -, X2, ⟨Lc2, hQ2, l2, y2, z2⟩, st2⟩ := Jvm.LawKit.callS X1 hx (y := (⟨"hearsay/base/RandomStreamsMixPinLaw", "unmix", "(J)J"⟩ : MethodName)) hown (mvT hZ (hw _ (List.mem_of_getElem? (i := 6) rfl))) (mvT hZ (hw _ (List.mem_of_getElem? (i := 7) rfl))) (mvT hZ (hw _ (List.mem_of_getElem? (i := 8) rfl))) (mvT hZ (hw _ (List.mem_of_getElem? (i := 9) rfl))) (by decide) (backOf (W := 0) (rmU l Z a0 hw [] ((own_mix q0))  h0 n0 Z0) hZ (hw _ (List.mem_of_getElem? (i := 9) rfl)) (hw _ (List.mem_of_getElem? (i := 8) rfl)) (by decide) (by decide)) (g := (mkF m 4 #[.val (.long q0), .second, .val (.long q1), .second, .unset, .unset] [(.long (own_mix q0))])) rfl (by rw [hml]; rfl) (argsL := [(.long (own_mix q0))]) (rest := []) (lenOf pd0_0 rfl) rfl (by show 2 * 0 + _ ≤ _; exact Nat.le_of_eq rfl) (hb hby at_4) (fun _ _ => ⟨rfl, e1, (by decide : 0 + 0 ≤ _), (by decide : 0 + 0 ≤ _)⟩)
  dsimp only [Pt.U, Pt.locs, Pt.cells, Pt.slots] at X2 l2 y2 z2 st2 hQ2
  subst l2 y2 z2
  obtain ⟨rfl, N2q, e2⟩ := hQ2
  have N2 := Fr.app N1 N2q
  obtain ⟨_, _, ⟨T3, L3, k3, n3⟩, -, X3, ⟨Lc3, hQ3, l3, y3, z3⟩, st3⟩ := Jvm.LawKit.callS X2 hx (y := (⟨"hearsay/base/RandomStreamsMixPinLaw", "unmix", "(J)J"⟩ : MethodName)) hown (mvT hZ (hw _ (List.mem_of_getElem? (i := 6) rfl))) (mvT hZ (hw _ (List.mem_of_getElem? (i := 7) rfl))) (mvT hZ (hw _ (List.mem_of_getElem? (i := 8) rfl))) (mvT hZ (hw _ (List.mem_of_getElem? (i := 9) rfl))) (by decide) (backOf (W := 0) (rmU l Z a0 hw [] q1  h0 n0 Z0) hZ (hw _ (List.mem_of_getElem? (i := 9) rfl)) (hw _ (List.mem_of_getElem? (i := 8) rfl)) (by decide) (by decide)) (g := (mkF m 20 #[.val (.long q0), .second, .val (.long q1), .second, .val (.int (1 : Int32)), .unset] [(.long q1)])) rfl (by rw [hml]; rfl) (argsL := [(.long q1)]) (rest := []) (lenOf pd0_0 rfl) rfl (by show 2 * 0 + _ ≤ _; exact Nat.le_of_eq rfl) (hb hby at_20) (fun _ _ => ⟨rfl, e2, (by decide : 0 + 0 ≤ _), (by decide : 0 + 0 ≤ _)⟩)
  dsimp only [Pt.U, Pt.locs, Pt.cells, Pt.slots] at X3 l3 y3 z3 st3 hQ3
  subst l3 y3 z3
  obtain ⟨rfl, N3q, e3⟩ := hQ3
  have N3 := Fr.app N2 N3q
  obtain ⟨_, _, ⟨T4, L4, k4, n4⟩, -, X4, ⟨Lc4, hQ4, l4, y4, z4⟩, st4⟩ := Jvm.LawKit.callS X3 hx (y := (⟨"hearsay/base/RandomStreams", "mix", "(J)J"⟩ : MethodName)) hown (mvT hZ (hw _ (List.mem_of_getElem? (i := 0) rfl))) (mvT hZ (hw _ (List.mem_of_getElem? (i := 1) rfl))) (mvT hZ (hw _ (List.mem_of_getElem? (i := 2) rfl))) (mvT hZ (hw _ (List.mem_of_getElem? (i := 3) rfl))) (by decide) (backOf (W := 0) (rmB l Z a0 hw [] ((own_un q1))  h0 n0 Z0) hZ (hw _ (List.mem_of_getElem? (i := 3) rfl)) (hw _ (List.mem_of_getElem? (i := 2) rfl)) (by decide) (by decide)) (g := (mkF m 23 #[.val (.long q0), .second, .val (.long q1), .second, .val (.int (1 : Int32)), .unset] [(.long (own_un q1))])) rfl (by rw [hml]; rfl) (argsL := [(.long (own_un q1))]) (rest := []) (lenOf pd0_0 rfl) rfl (by show 2 * 0 + _ ≤ _; exact Nat.le_of_eq rfl) (hb hby at_23) (fun _ _ => ⟨rfl, e3, (by decide : 0 + 0 ≤ _), (by decide : 0 + 0 ≤ _)⟩)
  dsimp only [Pt.U, Pt.locs, Pt.cells, Pt.slots] at X4 l4 y4 z4 st4 hQ4
  subst l4 y4 z4
  obtain ⟨rfl, N4q, e4⟩ := hQ4
  have N4 := Fr.app N3 N4q
  have pre5 : ∀ t, Steps p.tables e below (T4.setTop (mkF m 53 #[.val (.long q0), .second, .val (.long q1), .second, .val (.int (1 : Int32)), .val (.int (1 : Int32))] [(.int (1 : Int32))])) t → Steps p.tables e below (s₁.setTop (entryFrame m #[(.long q0), (.long q1)] maxLocals)) t := fun t_ k_ => pre0 t_ (by
      refine XS.lloadN X0.here hx rfl (hb hby at_0) rfl ?_
      show Steps p.tables e below (s₁.setTop (mkF m 1 #[.val (.long q0), .second, .val (.long q1), .second, .unset, .unset] [(.long q0)])) _
      refine st1 _ ?_
      show Steps p.tables e below (T1.setTop (mkF m 4 #[.val (.long q0), .second, .val (.long q1), .second, .unset, .unset] [(.long (own_mix q0))])) _
      refine st2 _ ?_
      show Steps p.tables e below (T2.setTop (mkF m 7 #[.val (.long q0), .second, .val (.long q1), .second, .unset, .unset] [(.long (own_un (own_mix q0)))])) _
      refine XS.lloadN X2.here hx rfl (hb hby at_7) rfl ?_
      show Steps p.tables e below (T2.setTop (mkF m 8 #[.val (.long q0), .second, .val (.long q1), .second, .unset, .unset] [(.long q0), (.long (own_un (own_mix q0)))])) _
      refine XS.lcmp X2.here hx rfl (hb hby at_8) rfl ?_
      show Steps p.tables e below (T2.setTop (mkF m 9 #[.val (.long q0), .second, .val (.long q1), .second, .unset, .unset] [(.int (lcmpW (own_un (own_mix q0)) q0))])) _
      refine XS.ifNo X2.here hx rfl (hb hby at_9) rfl ((if0 _ _).trans (teq (own_lc (own_back q0))).2) ?_
      show Steps p.tables e below (T2.setTop (mkF m 12 #[.val (.long q0), .second, .val (.long q1), .second, .unset, .unset] [])) _
      refine XS.iconst X2.here hx rfl (hb hby at_12) ?_
      show Steps p.tables e below (T2.setTop (mkF m 13 #[.val (.long q0), .second, .val (.long q1), .second, .unset, .unset] [(.int (1 : Int32))])) _
      refine XS.goto X2.here hx rfl (pc0 := 13) (pc' := 17) rfl (hb hby at_13) (by decide) (by decide) ?_
      show Steps p.tables e below (T2.setTop (mkF m 17 #[.val (.long q0), .second, .val (.long q1), .second, .unset, .unset] [(.int (1 : Int32))])) _
      refine XS.istore X2.here hx rfl (hb hby at_17) rfl (l' := #[.val (.long q0), .second, .val (.long q1), .second, .val (.int (1 : Int32)), .unset]) rfl ?_
      show Steps p.tables e below (T2.setTop (mkF m 19 #[.val (.long q0), .second, .val (.long q1), .second, .val (.int (1 : Int32)), .unset] [])) _
      refine XS.lloadN X2.here hx rfl (hb hby at_19) rfl ?_
      show Steps p.tables e below (T2.setTop (mkF m 20 #[.val (.long q0), .second, .val (.long q1), .second, .val (.int (1 : Int32)), .unset] [(.long q1)])) _
      refine st3 _ ?_
      show Steps p.tables e below (T3.setTop (mkF m 23 #[.val (.long q0), .second, .val (.long q1), .second, .val (.int (1 : Int32)), .unset] [(.long (own_un q1))])) _
      refine st4 _ ?_
      show Steps p.tables e below (T4.setTop (mkF m 26 #[.val (.long q0), .second, .val (.long q1), .second, .val (.int (1 : Int32)), .unset] [(.long (own_mix (own_un q1)))])) _
      refine XS.lloadN X4.here hx rfl (hb hby at_26) rfl ?_
      show Steps p.tables e below (T4.setTop (mkF m 27 #[.val (.long q0), .second, .val (.long q1), .second, .val (.int (1 : Int32)), .unset] [(.long q1), (.long (own_mix (own_un q1)))])) _
      refine XS.lcmp X4.here hx rfl (hb hby at_27) rfl ?_
      show Steps p.tables e below (T4.setTop (mkF m 28 #[.val (.long q0), .second, .val (.long q1), .second, .val (.int (1 : Int32)), .unset] [(.int (lcmpW (own_mix (own_un q1)) q1))])) _
      refine XS.ifNo X4.here hx rfl (hb hby at_28) rfl ((if0 _ _).trans (teq (own_lc (own_forth q1))).2) ?_
      show Steps p.tables e below (T4.setTop (mkF m 31 #[.val (.long q0), .second, .val (.long q1), .second, .val (.int (1 : Int32)), .unset] [])) _
      refine XS.iconst X4.here hx rfl (hb hby at_31) ?_
      show Steps p.tables e below (T4.setTop (mkF m 32 #[.val (.long q0), .second, .val (.long q1), .second, .val (.int (1 : Int32)), .unset] [(.int (1 : Int32))])) _
      refine XS.goto X4.here hx rfl (pc0 := 32) (pc' := 36) rfl (hb hby at_32) (by decide) (by decide) ?_
      show Steps p.tables e below (T4.setTop (mkF m 36 #[.val (.long q0), .second, .val (.long q1), .second, .val (.int (1 : Int32)), .unset] [(.int (1 : Int32))])) _
      refine XS.istore X4.here hx rfl (hb hby at_36) rfl (l' := #[.val (.long q0), .second, .val (.long q1), .second, .val (.int (1 : Int32)), .val (.int (1 : Int32))]) rfl ?_
      show Steps p.tables e below (T4.setTop (mkF m 38 #[.val (.long q0), .second, .val (.long q1), .second, .val (.int (1 : Int32)), .val (.int (1 : Int32))] [])) _
      refine XS.iload X4.here hx rfl (hb hby at_38) rfl ?_
      show Steps p.tables e below (T4.setTop (mkF m 40 #[.val (.long q0), .second, .val (.long q1), .second, .val (.int (1 : Int32)), .val (.int (1 : Int32))] [(.int (1 : Int32))])) _
      refine XS.ifNo X4.here hx rfl (hb hby at_40) rfl ((if0 _ _).trans (feq (by decide : ¬ ((1 : Int32) = (0 : Int32)))).1) ?_
      show Steps p.tables e below (T4.setTop (mkF m 43 #[.val (.long q0), .second, .val (.long q1), .second, .val (.int (1 : Int32)), .val (.int (1 : Int32))] [])) _
      refine XS.iload X4.here hx rfl (hb hby at_43) rfl ?_
      show Steps p.tables e below (T4.setTop (mkF m 45 #[.val (.long q0), .second, .val (.long q1), .second, .val (.int (1 : Int32)), .val (.int (1 : Int32))] [(.int (1 : Int32))])) _
      refine XS.ifNo X4.here hx rfl (hb hby at_45) rfl ((if0 _ _).trans (feq (by decide : ¬ ((1 : Int32) = (0 : Int32)))).1) ?_
      show Steps p.tables e below (T4.setTop (mkF m 48 #[.val (.long q0), .second, .val (.long q1), .second, .val (.int (1 : Int32)), .val (.int (1 : Int32))] [])) _
      refine XS.iconst X4.here hx rfl (hb hby at_48) ?_
      show Steps p.tables e below (T4.setTop (mkF m 49 #[.val (.long q0), .second, .val (.long q1), .second, .val (.int (1 : Int32)), .val (.int (1 : Int32))] [(.int (1 : Int32))])) _
      refine XS.goto X4.here hx rfl (pc0 := 49) (pc' := 53) rfl (hb hby at_49) (by decide) (by decide) ?_
      show Steps p.tables e below (T4.setTop (mkF m 53 #[.val (.long q0), .second, .val (.long q1), .second, .val (.int (1 : Int32)), .val (.int (1 : Int32))] [(.int (1 : Int32))])) _
      exact k_)
  obtain ⟨fs, hr, hrun, hended, hW, hsame⟩ := X4.leave (v := some (.int (1 : Int32))) (fun h => by rw [Bd.returns] at h; cases h)
  refine ⟨_, _, pre5 _ ?_, hrun, hended, _, _, rfl, ?_, ⟨_, rfl⟩, hW, hsame.mono (by decide) (by decide)⟩
  · exact retN X4 hx (t := .boolean) Bd.returns (by simp) (hb hby at_53) hr
  · show Q0 Z q0 q1 h0 n0 _ T4.heap _
    rw [e4]
    exact ⟨rfl, N4⟩
set_option maxRecDepth 65536 in
set_option maxHeartbeats 40000000 in
theorem comes_1 {Post : Tables → Env → Array Value → State → Outcome → State → Prop} (hpost : ∀ tb e args s v u, (limb_1_1.after args s (.returned v) u = true ∧ limb_1_2.after args s (.returned v) u = true ∧ True) → FrameEnd s (.returned v) u (Jvm.fieldLocs frame_1_writes args s ++ Jvm.arrayLocs frame_1_arrays args s ++ Jvm.staticLocs frame_1_statics s) 0 0 → Post tb e args s (.returned v) u) :
    ArmFor flags0 classFile x code maxLocals ret World_1 tables_1 room_1 Calls_1 rest_1 Pre_1 Post := by
  intro l hfl _ _ p e ha hc hk s m args below hf hA hF happ hP
  obtain ⟨hcalls, hrest, hpre⟩ := hP
  obtain ⟨-, -, -, hnamed, -, -, -, hat⟩ := (Spec.applies_iff hf).mp happ
  obtain ⟨hg, hn⟩ := and_e (Cond.before_iff.mp (show (Jvm.Cond.and given_1 narrow_1).before args s = true from hpre))
  obtain ⟨hcount, hg0⟩ := and_e hg
  obtain ⟨ha0, hg1⟩ := and_e hg0
  have ha1 := hg1
  obtain ⟨w0, w1, rfl⟩ : ∃ w0 w1 : Value, args = #[w0, w1] := by
    have hs : args.size = 2 := by simpa [Cond.value, given_1] using hcount
    obtain ⟨L⟩ := args
    match L, hs with
    | [w0, w1], _ => exact ⟨w0, w1, rfl⟩
  have hw := fun d (hd : d ∈ tables_1) => atoms_spec (ws := Jvm.Cond.code x code maxLocals ret :: tables_1) hat d (List.mem_cons_of_mem _ hd)
  have hfit : Fit s := fun {y c} hc i hi => by
    obtain ⟨ha, rfl⟩ := Array.getElem?_eq_some_iff.mp hc
    have q := List.all_eq_true.mp ((Array.all_eq_true_iff_forall_mem.mp hF) _ (Array.getElem_mem ha)) i (List.mem_range.mpr hi)
    simpa [Array.getElem?_eq_getElem hi] using q
  obtain ⟨i0, ei0⟩ := isL_v ha0
  obtain rfl : w0 = (.long i0) := Option.some.inj ei0
  obtain ⟨i1, ei1⟩ := isL_v ha1
  obtain rfl : w1 = (.long i1) := Option.some.inj ei1
  obtain ⟨n, o, h1, h2, h3, _, L, rfl, ⟨rfl, N⟩, hq⟩ := rm0 l s _ hw tables_1 i0 i1  s.heap s.heap.size (Nat.le_refl _)  p e ha hc hk s m _ below hf ((Spec.applies_iff_loose hf).mp happ).1 ⟨rfl, State.Warmed39.refl s, rfl⟩ trivial
  refine ⟨n, _, h1, h2, h3, hpost _ _ _ _ _ _ ⟨Cond.after_iff.mpr rfl, Cond.after_iff.mpr (eq_i res_at (Term.int_eval (1)) rfl), trivial⟩ ⟨hq.1, hq.2.1, (hq.2.2.sift fun y hy => Or.inr (N y hy)).mono (by decide) (by decide)⟩⟩
theorem main_1_1 : Claimed_1_1 := comes_1 fun _ _ _ _ _ _ h hF => ⟨h.1, hF⟩
theorem main_1_2 : Claimed_1_2 := comes_1 fun _ _ _ _ _ _ h hF => ⟨h.2.1, hF⟩
end Jvm.Pilot.@@N@@
namespace Jvm.Pilot.@@N@@
open Jvm Jvm.ClassFile Sem Op Lib Jvm.Free Jvm.Stand Jvm.Pilot.@@N@@.Jvm.D
/-! MADE BY PROGRAM (witnessworld.py) out of the Statement's table words and the real class files: 7 classes; the members and pool entries that the words name. The judged class is class 1, her method 3. -/
namespace start1
open Jvm.ClassFile
def u (s : String) : CpInfo := .utf8 (stringToUtf16 s)
/-- a pool by its gaps: so many unusable entries, then the entry; so many at the end -/
def gap : Nat → List CpInfo → List CpInfo
  | 0, r => r
  | n + 1, r => .unusable :: gap n r
def poolList (es : List (Nat × CpInfo)) (last : Nat) : List CpInfo := es.foldr (fun e r => gap e.1 (e.2 :: r)) (gap last [])
def pool (es : List (Nat × CpInfo)) (last : Nat) : Array CpInfo := ⟨poolList es last⟩
def fileOf (pool : Array CpInfo) (this : Nat) (attrs : Array Attribute := #[]) (ms : Array MethodInfo := #[]) (fl : Nat := 33) (sup : Nat := 0) (ifs : Array Nat := #[]) (fds : Array FieldInfo := #[]) : ClassFile where
  minorVersion := 0
  majorVersion := 65
  constantPool := pool
  accessFlags := fl
  thisClass := this
  superClass := sup
  interfaces := ifs
  fields := fds
  methods := ms
  attributes := attrs
def plain (name : String) (sup : Option ClassId) : Class where
  name := name
  kind := .ordinary
  loader := none
  accessFlags := 33
  super := sup
  interfaces := #[]
  cf := none
  fields := #[]
  methods := #[]
  instanceTypes := #[]
  staticTypes := #[]
  resolved := #[]
  callSites := []
  init := .initialized
  statics := none
  mirror := none

def pool0 : Array CpInfo := pool [(5, u "<init>"), (0, u "()V"), (1, .class_ 10), (1, u "java/lang/Object")] 113

def k0m0 : Method := { name := "<init>", desc := "()V", sig := { parameters := [], returnType := none }, accessFlags := 1, code := none }
/-- java/lang/Object -/
def k0 : Class := { plain "java/lang/Object" none with
  accessFlags := 33
  interfaces := #[]
  cf := some (fileOf pool0 8 #[] #[{ accessFlags := 1, nameIndex := 5, descriptorIndex := 6, attributes := #[] }] 33 0 #[] #[])
  fields := #[]
  methods := #[k0m0]
  instanceTypes := #[]
  staticTypes := #[]
  resolved := Array.replicate 124 none
  statics := none }

def pool1 : Array CpInfo := pool [(2, .class_ 4), (1, u "java/lang/Object"), (0, u "<init>"), (0, u "()V"), (0, .long 2), (1, .long 13787848793156543929), (1, .methodref 12 13), (0, .class_ 14), (0, .nameAndType 15 16), (0, u "hearsay/base/RandomStreamsMixPinLaw"), (0, u "inverse"), (0, u "(J)J"), (0, .long 10723151780598845931), (1, .methodref 20 21), (0, .class_ 22), (0, .nameAndType 23 16), (0, u "hearsay/base/RandomStreams"), (0, u "mix"), (0, .methodref 12 25), (0, .nameAndType 26 16), (0, u "unmix"), (2, u "law"), (0, u "(JJ)Z")] 3

def k1m0 : Method := { name := "<init>", desc := "()V", sig := { parameters := [], returnType := none }, accessFlags := 1, code := none }
def k1c1 : Code := { maxStack := 8, maxLocals := 4, code := method_2_code, exceptionTable := #[], attributes := #[] }
def k1m1 : Method := { name := "inverse", desc := "(J)J", sig := { parameters := [.long], returnType := some .long }, accessFlags := 10, code := some k1c1 }
def k1c2 : Code := { maxStack := 5, maxLocals := 6, code := method_3_code, exceptionTable := #[], attributes := #[] }
def k1m2 : Method := { name := "unmix", desc := "(J)J", sig := { parameters := [.long], returnType := some .long }, accessFlags := 10, code := some k1c2 }
def k1c3 : Code := { maxStack := 4, maxLocals := 6, code := code, exceptionTable := #[], attributes := #[] }
def k1m3 : Method := { name := "law", desc := "(JJ)Z", sig := { parameters := [.long, .long], returnType := some .boolean }, accessFlags := 9, code := some k1c3 }
/-- hearsay/base/RandomStreamsMixPinLaw -/
def k1 : Class := { plain "hearsay/base/RandomStreamsMixPinLaw" (some 0) with
  accessFlags := 49
  interfaces := #[]
  cf := some (fileOf pool1 12 #[] #[{ accessFlags := 1, nameIndex := 5, descriptorIndex := 6, attributes := #[] }, { accessFlags := 10, nameIndex := 15, descriptorIndex := 16, attributes := #[] }, { accessFlags := 10, nameIndex := 26, descriptorIndex := 16, attributes := #[] }, { accessFlags := 9, nameIndex := 29, descriptorIndex := 30, attributes := #[] }] 49 2 #[] #[])
  fields := #[]
  methods := #[k1m0, k1m1, k1m2, k1m3]
  instanceTypes := #[]
  staticTypes := #[]
  resolved := Array.replicate 34 none
  statics := none }

def pool2 : Array CpInfo := pool [(2, .class_ 4), (1, u "java/lang/Object"), (0, u "<init>"), (0, u "()V"), (3, .class_ 12), (1, u "hearsay/base/RandomStreams"), (16, u "(J)J"), (43, u "mix"), (28, .long 13787848793156543929), (1, .long 10723151780598845931), (5, u "GOLDEN_GAMMA"), (0, u "J"), (1, u "MIX_1"), (0, u "MIX_2"), (0, u "MULTIPLIER"), (0, u "INCREMENT"), (0, u "MASK")] 45

def k2m0 : Method := { name := "<init>", desc := "()V", sig := { parameters := [], returnType := none }, accessFlags := 2, code := none }
def k2c1 : Code := { maxStack := 5, maxLocals := 2, code := prog_8_method_13_code, exceptionTable := #[], attributes := #[] }
def k2m1 : Method := { name := "mix", desc := "(J)J", sig := { parameters := [.long], returnType := some .long }, accessFlags := 9, code := some k2c1 }
/-- hearsay/base/RandomStreams -/
def k2 : Class := { plain "hearsay/base/RandomStreams" (some 0) with
  accessFlags := 49
  interfaces := #[]
  cf := some (fileOf pool2 10 #[] #[{ accessFlags := 2, nameIndex := 5, descriptorIndex := 6, attributes := #[] }, { accessFlags := 9, nameIndex := 73, descriptorIndex := 29, attributes := #[] }] 49 2 #[] #[{ accessFlags := 26, nameIndex := 110, descriptorIndex := 111, attributes := #[] }, { accessFlags := 26, nameIndex := 113, descriptorIndex := 111, attributes := #[] }, { accessFlags := 26, nameIndex := 114, descriptorIndex := 111, attributes := #[] }, { accessFlags := 26, nameIndex := 115, descriptorIndex := 111, attributes := #[] }, { accessFlags := 26, nameIndex := 116, descriptorIndex := 111, attributes := #[] }, { accessFlags := 26, nameIndex := 117, descriptorIndex := 111, attributes := #[] }])
  fields := #[{ name := "GOLDEN_GAMMA", type := .long, accessFlags := 26, slot := 0, constantValue := 0 }, { name := "MIX_1", type := .long, accessFlags := 26, slot := 1, constantValue := 0 }, { name := "MIX_2", type := .long, accessFlags := 26, slot := 2, constantValue := 0 }, { name := "MULTIPLIER", type := .long, accessFlags := 26, slot := 3, constantValue := 0 }, { name := "INCREMENT", type := .long, accessFlags := 26, slot := 4, constantValue := 0 }, { name := "MASK", type := .long, accessFlags := 26, slot := 5, constantValue := 0 }]
  methods := #[k2m0, k2m1]
  instanceTypes := #[]
  staticTypes := #[.long, .long, .long, .long, .long, .long]
  resolved := Array.replicate 163 none
  statics := none }

def pool3 : Array CpInfo := pool [(1, u "java/lang/Cloneable"), (0, .class_ 1), (0, u "java/lang/Object"), (0, .class_ 3)] 3

/-- java/lang/Cloneable -/
def k3 : Class := { plain "java/lang/Cloneable" (some 0) with
  accessFlags := 1537
  interfaces := #[]
  cf := some (fileOf pool3 2 #[] #[] 1537 4 #[] #[])
  fields := #[]
  methods := #[]
  instanceTypes := #[]
  staticTypes := #[]
  resolved := Array.replicate 8 none
  statics := none }

def pool4 : Array CpInfo := pool [(1, u "java/io/Serializable"), (0, .class_ 1), (0, u "java/lang/Object"), (0, .class_ 3)] 3

/-- java/io/Serializable -/
def k4 : Class := { plain "java/io/Serializable" (some 0) with
  accessFlags := 1537
  interfaces := #[]
  cf := some (fileOf pool4 2 #[] #[] 1537 4 #[] #[])
  fields := #[]
  methods := #[]
  instanceTypes := #[]
  staticTypes := #[]
  resolved := Array.replicate 8 none
  statics := none }

/-- the primitive byte -/
def k5 : Class := { plain "byte" none with kind := .primitive 'B', accessFlags := 0x411 }
/-- [B -/
def k6 : Class := { plain "[B" (some 0) with kind := .array 5 .byte, interfaces := #[3, 4], accessFlags := 1041 }

def heap : Heap := #[]
def classes : Array Class := #[k0, k1, k2, k3, k4, k5, k6]
def interned : List (Array UInt16 × Addr) := []
def slotsUsed : Nat := 0
def theMethod : MethodId := ⟨1, 3⟩
def args0 : Array Value := #[.long 5, .long 7]
def aboutOver (below : List Frame) : State where
  vm := { classes := classes, interned := interned.toArray }
  heap := heap
  slotsUsed := slotsUsed
  threads := #[{ frames := .invoking theMethod args0 :: below }]
def below0 : List Frame := [.native { method := ⟨0, 0⟩, args := #[] }]
def about1 : State := aboutOver below0
def p0 : Program := .bare "" "" ""
def e0 : Env := launch0.env 0 0 0
theorem w_frames : about1.frames = Frame.invoking theMethod args0 :: below0 := rfl
set_option maxRecDepth 65536 in
theorem w_args : argsFit about1.vm theMethod args0 = true := by decide +kernel
set_option maxRecDepth 65536 in
theorem w_heap : heapFits about1 = true := by decide +kernel
set_option maxRecDepth 65536 in
theorem w_runnable : about1.curStatus? = some .runnable := by decide +kernel
set_option maxRecDepth 65536 in
theorem w_alone : about1.alone = true := by decide +kernel
set_option maxRecDepth 65536 in
theorem w_named : about1.methodNamed? x = some theMethod := by decide +kernel
set_option maxRecDepth 65536 in
theorem w_hears : about1.hears theMethod below0 = true := by decide +kernel
set_option maxRecDepth 65536 in
theorem w_ripe : about1.ripe theMethod args0 below0 = true := by decide +kernel
theorem w_running : about1.status = .running := rfl
set_option maxRecDepth 65536 in
theorem w_room : about1.hasRoom e0.platform room_1 = true :=
  launch0.hasRoom_least _ room_1 (by decide +kernel) (by decide +kernel) (by decide +kernel) (by decide +kernel) (by decide +kernel) (by decide +kernel)
theorem allAtoms_all (ts : List Jvm.Cond) (a : Array Jvm.Value) (st : Jvm.State) : (allAtoms ts).before a st = ts.all (fun c => c.before a st) := by
  induction ts with
  | nil => rfl
  | cons c t ih =>
    show (Jvm.Cond.and c (allAtoms t)).before a st = _
    rw [Jvm.Cond.before_and, ih, List.all_cons]
def words1 : List Jvm.Cond := Jvm.Cond.code x code maxLocals ret :: tables_1
/-- a 'code' word, met by the world's own term for the bytes: nothing is compared byte by byte -/
theorem code_word {y : MethodName} {bytes : ByteArray} {mx : Nat} {rt : Option FieldType} {a : Array Value} {s : State} {m : MethodId} {meth : Method} {c : Code} (h1 : s.methodNamed? y = some m) (h2 : s.vm.method? m = some meth) (h3 : meth.code = some c) (h4 : c.code = bytes)
    (h5 : (c.maxLocals == mx && c.exceptionTable.isEmpty && decide (c.maxStack ≤ mostOperands) && decide (meth.sig.returnType = rt) && !meth.locks && decide (parseMethodDescriptor y.desc = some meth.sig)) = true) : (Jvm.Cond.code y bytes mx rt).before a s = true := by
  simp only [Bool.and_eq_true, beq_iff_eq, Bool.not_eq_true', decide_eq_true_eq] at h5
  obtain ⟨⟨⟨⟨⟨g1, g2⟩, g3⟩, g4⟩, g5⟩, g6⟩ := h5
  simp [Cond.before, Cond.holds, Cond.value, h1, h2, h3, h4, g1, g2, g3, g4, g5, g6]
def isCode : Jvm.Cond → Bool
  | .code _ _ _ _ => true
  | _ => false
theorem all_split {L : List Jvm.Cond} {P : Jvm.Cond → Bool} (h1 : L.all (fun c => isCode c || P c) = true) (h2 : ∀ c ∈ L.filter isCode, P c = true) : L.all P = true := by
  refine List.all_eq_true.mpr fun c hc => ?_
  have h := List.all_eq_true.mp h1 c hc
  rcases Bool.eq_false_or_eq_true (isCode c) with hi | hi
  · exact h2 c (List.mem_filter.mpr ⟨hc, hi⟩)
  · simpa [hi] using h
set_option maxRecDepth 65536 in
theorem w_c0 : (Jvm.Cond.code x code maxLocals ret).before args0 about1 = true := code_word (m := ⟨1, 3⟩) (meth := k1m3) (c := k1c3) (by decide +kernel) rfl rfl rfl (by decide +kernel)
set_option maxRecDepth 65536 in
theorem w_c1 : (Jvm.Cond.code ({ cls := "hearsay/base/RandomStreams", name := "mix", desc := "(J)J" } : Jvm.MethodName) prog_8_method_13_code (2 : Nat) (Option.some Jvm.ClassFile.FieldType.long)).before args0 about1 = true := code_word (m := ⟨2, 1⟩) (meth := k2m1) (c := k2c1) (by decide +kernel) rfl rfl rfl (by decide +kernel)
set_option maxRecDepth 65536 in
theorem w_c2 : (Jvm.Cond.code ({ cls := "hearsay/base/RandomStreamsMixPinLaw", name := "unmix", desc := "(J)J" } : Jvm.MethodName) method_3_code (6 : Nat) (Option.some Jvm.ClassFile.FieldType.long)).before args0 about1 = true := code_word (m := ⟨1, 2⟩) (meth := k1m2) (c := k1c2) (by decide +kernel) rfl rfl rfl (by decide +kernel)
set_option maxRecDepth 65536 in
theorem w_c3 : (Jvm.Cond.code ({ cls := "hearsay/base/RandomStreamsMixPinLaw", name := "inverse", desc := "(J)J" } : Jvm.MethodName) method_2_code (4 : Nat) (Option.some Jvm.ClassFile.FieldType.long)).before args0 about1 = true := code_word (m := ⟨1, 1⟩) (meth := k1m1) (c := k1c1) (by decide +kernel) rfl rfl rfl (by decide +kernel)
def codes1 : List Jvm.Cond := [Jvm.Cond.code x code maxLocals ret, Jvm.Cond.code ({ cls := "hearsay/base/RandomStreams", name := "mix", desc := "(J)J" } : Jvm.MethodName) prog_8_method_13_code (2 : Nat) (Option.some Jvm.ClassFile.FieldType.long), Jvm.Cond.code ({ cls := "hearsay/base/RandomStreamsMixPinLaw", name := "unmix", desc := "(J)J" } : Jvm.MethodName) method_3_code (6 : Nat) (Option.some Jvm.ClassFile.FieldType.long), Jvm.Cond.code ({ cls := "hearsay/base/RandomStreamsMixPinLaw", name := "inverse", desc := "(J)J" } : Jvm.MethodName) method_2_code (4 : Nat) (Option.some Jvm.ClassFile.FieldType.long)]
set_option maxRecDepth 65536 in
theorem codes_eq : words1.filter isCode = codes1 := rfl
theorem w_codes : ∀ c ∈ words1.filter isCode, c.before args0 about1 = true := by
  rw [codes_eq]
  intro c hc
  simp only [codes1, List.mem_cons, List.not_mem_nil, or_false] at hc
  rcases hc with rfl | rfl | rfl | rfl
  · exact w_c0
  · exact w_c1
  · exact w_c2
  · exact w_c3
set_option maxRecDepth 65536 in
theorem w_t1 : words1.all (fun c => isCode c || c.before args0 about1) = true := by decide +kernel
theorem w_tables : (allAtoms (Jvm.Cond.code x code maxLocals ret :: tables_1)).before args0 about1 = true := by
  rw [allAtoms_all]
  show words1.all (fun c => c.before args0 about1) = true
  refine all_split ?_ w_codes
  rw [w_t1]
set_option maxRecDepth 65536 in
theorem w_case : (Jvm.Cond.and given_1 narrow_1).before args0 about1 = true := by decide +kernel
theorem w_applies : (headSpec (Jvm.Cond.code x code maxLocals ret :: tables_1) room_1).applies x e0.platform about1 = true :=
  (Spec.applies_iff w_frames).mpr ⟨w_running, w_runnable, w_alone, w_named, w_hears, w_ripe, w_room, w_tables⟩
theorem atStart : AtStart classFile x code maxLocals ret World_1 tables_1 room_1 Calls_1 rest_1 Pre_1 launch0 p0 e0 about1 theMethod args0 below0 :=
  ⟨lists_1, trivial, launch0.admits_env _ _ _, launch0.least_env, fairChoices_fair.cas, fairChoices_fair.clock, w_frames, w_args, w_heap, w_applies, trivial, trivial, w_case⟩
end start1
theorem witness_1 : WitnessClaimed_1 := ⟨start1.p0, start1.e0, start1.about1, start1.theMethod, start1.args0, start1.below0, start1.atStart⟩
end Jvm.Pilot.@@N@@
