import JvmDerived
import JvmDerived.Pilot.@@N@@Statement
import JvmDerived.Pilot.@@N@@Code
set_option linter.unusedVariables false
set_option linter.unusedSimpArgs false

namespace Jvm.Pilot.@@N@@
open Jvm Jvm.ClassFile Sem Op Lib Jvm.Free Jvm.Stand Jvm.LawKit Jvm.RoadKit Bundle Jvm.Pilot.@@N@@.Jvm.D

/-! arrays by a function of the place: what each place holds -/
def oUpd (f : Nat → Value) (k : Nat) (v : Value) : Nat → Value := fun i => if i = k then v else f i
def OArr (Z : State) (h : Heap) (a : Addr) (ty : FieldType) (n : Nat) (f : Nat → Value) : Prop := ∃ c : Cell, Arr Z h a c ty ∧ c.slots.size = n ∧ ∀ i, i < n → c.slots[i]? = some (f i)
section OArrFacts
variable {Z : State} {h h' : Heap} {a b : Addr} {ty : FieldType} {n : Nat} {f : Nat → Value} {sl : Nat} {v : Value} {ws : List Addr}
theorem oUpd_same (f : Nat → Value) (k : Nat) (v : Value) : oUpd f k v k = v := if_pos rfl
theorem oUpd_ne {f : Nat → Value} {k i : Nat} {v : Value} (h : i ≠ k) : oUpd f k v i = f i := if_neg h
theorem OArr.lt (F : OArr Z h a ty n f) : a < h.size := by obtain ⟨c, A, -⟩ := F; exact A.lt
theorem OArr.ext (F : OArr Z h a ty n f) (E : Ext h h') : OArr Z h' a ty n f := by obtain ⟨c, A, r⟩ := F; exact ⟨c, A.ext E, r⟩
theorem OArr.other (F : OArr Z h b ty n f) (W : Wr h h' a sl v) (q : b ≠ a) : OArr Z h' b ty n f := by obtain ⟨c, A, r⟩ := F; exact ⟨c, A.other W q, r⟩
theorem OArr.keep (F : OArr Z h a ty n f) (K : Keep h h' ws) (q : a ∉ ws) : OArr Z h' a ty n f := by obtain ⟨c, A, r⟩ := F; exact ⟨c, ⟨K.2.1 a c A.1 q, A.2⟩, r⟩
theorem OArr.congr {f' : Nat → Value} (F : OArr Z h a ty n f) (q : ∀ i, i < n → f i = f' i) : OArr Z h a ty n f' := by obtain ⟨c, A, S, H⟩ := F; exact ⟨c, A, S, fun i hi => by rw [← q i hi]; exact H i hi⟩
theorem OArr.set (F : OArr Z h a ty n f) {k : Nat} (hk : k < n) (W : Wr h h' a k v) : OArr Z h' a ty n (oUpd f k v) := by
  obtain ⟨c, A, S, H⟩ := F
  refine ⟨_, A.same W, by rw [sz_set]; exact S, fun i hi => ?_⟩
  by_cases q : i = k
  · subst q; rw [oUpd_same]; simp [Cell.setSlot, S, hi]
  · rw [oUpd_ne q]; show (c.slots.setIfInBounds k v)[i]? = _
    rw [Array.getElem?_setIfInBounds_ne (Ne.symm q)]; exact H i hi
theorem o_idx {j : Int32} {k : Nat} (h : j.toInt = (k : Int)) : ¬ j < 0 ∧ j.toNatClampNeg = k := by
  refine ⟨?_, ?_⟩
  · rw [Int32.lt_iff_toInt_lt]; show ¬ j.toInt < 0; omega
  · simp only [Int32.toNatClampNeg]; omega
theorem o_in {cl : Cell} {j : Int32} {k n : Nat} (S : cl.slots.size = n) (h : j.toInt = (k : Int)) (hk : k < n) : ¬ (j < 0 ∨ cl.slots.size ≤ j.toNatClampNeg) := by
  obtain ⟨q1, q2⟩ := o_idx h
  rw [S, q2]; intro z; rcases z with z | z
  · exact q1 z
  · omega
end OArrFacts
section OArrLaws
variable {p : Program} {l : Launch} {e : Env} {R : Room} {s : State} {m : MethodId} {args : Array Value} {below : List Frame} {meth : Method} {c : Code} {T : State} {locs : List Loc} {cells slots : Nat} {Z : State} {h : Heap} {a : Addr} {n : Nat} {f : Nat → Value} {a0 : Array Value}
theorem oStI (X : Stand p l e R s m args below meth c T locs cells slots) (hx : p.tables.exec = Jvm.exec) (hZ : Z.Warmed39 s.vm) (eT : T.heap = h) (A : OArr Z h a .int n f) {j x : Int32} {k : Nat} (hj : j.toInt = (k : Int)) (hk : k < n) {g : JFrame} (hg : g.method = m) {rest : List Value} (hs : g.stack = .int x :: .int j :: .ref a :: rest) (hd : decode c.code g.pc = .ok (.iastore, 1)) :
    ∃ T' h', Stand p l e R s m args below meth c T' (locs ++ [⟨a, k⟩]) cells slots ∧ T'.heap = h' ∧ Wr h h' a k (.int x) ∧ OArr Z h' a .int n (oUpd f k (.int x)) ∧ ∀ target, Steps p.tables e below (T'.setTop { g with pc := g.pc + 1, stack := rest }) target → Steps p.tables e below (T.setTop g) target := by
  obtain ⟨cl, Ar, S, H⟩ := A
  obtain ⟨T', h', X', e', W', st⟩ := stI X hx hZ eT Ar (o_in S hj hk) hg hs hd
  rw [(o_idx hj).2] at X' W'
  exact ⟨T', h', X', e', W', OArr.set ⟨cl, Ar, S, H⟩ hk W', st⟩
theorem oStJ (X : Stand p l e R s m args below meth c T locs cells slots) (hx : p.tables.exec = Jvm.exec) (hZ : Z.Warmed39 s.vm) (eT : T.heap = h) (A : OArr Z h a .long n f) {j : Int32} {x : Int64} {k : Nat} (hj : j.toInt = (k : Int)) (hk : k < n) {g : JFrame} (hg : g.method = m) {rest : List Value} (hs : g.stack = .long x :: .int j :: .ref a :: rest) (hd : decode c.code g.pc = .ok (.lastore, 1)) :
    ∃ T' h', Stand p l e R s m args below meth c T' (locs ++ [⟨a, k⟩]) cells slots ∧ T'.heap = h' ∧ Wr h h' a k (.long x) ∧ OArr Z h' a .long n (oUpd f k (.long x)) ∧ ∀ target, Steps p.tables e below (T'.setTop { g with pc := g.pc + 1, stack := rest }) target → Steps p.tables e below (T.setTop g) target := by
  obtain ⟨cl, Ar, S, H⟩ := A
  obtain ⟨T', h', X', e', W', st⟩ := stJ X hx hZ eT Ar (o_in S hj hk) hg hs hd
  rw [(o_idx hj).2] at X' W'
  exact ⟨T', h', X', e', W', OArr.set ⟨cl, Ar, S, H⟩ hk W', st⟩
theorem oStZ (X : Stand p l e R s m args below meth c T locs cells slots) (hx : p.tables.exec = Jvm.exec) (hZ : Z.Warmed39 s.vm) (eT : T.heap = h) (A : OArr Z h a .boolean n f) {j x : Int32} {k : Nat} (hj : j.toInt = (k : Int)) (hk : k < n) {g : JFrame} (hg : g.method = m) {rest : List Value} (hs : g.stack = .int x :: .int j :: .ref a :: rest) (hd : decode c.code g.pc = .ok (.bastore, 1)) :
    ∃ T' h', Stand p l e R s m args below meth c T' (locs ++ [⟨a, k⟩]) cells slots ∧ T'.heap = h' ∧ Wr h h' a k (.int (x &&& 1)) ∧ OArr Z h' a .boolean n (oUpd f k (.int (x &&& 1))) ∧ ∀ target, Steps p.tables e below (T'.setTop { g with pc := g.pc + 1, stack := rest }) target → Steps p.tables e below (T.setTop g) target := by
  obtain ⟨cl, Ar, S, H⟩ := A
  obtain ⟨T', h', X', e', W', st⟩ := stZ X hx hZ eT Ar (o_in S hj hk) hg hs hd
  rw [(o_idx hj).2] at X' W'
  exact ⟨T', h', X', e', W', OArr.set ⟨cl, Ar, S, H⟩ hk W', st⟩
theorem oLdI (X : Stand p l e R s m args below meth c T locs cells slots) (hx : p.tables.exec = Jvm.exec) (hZ : Z.Warmed39 s.vm) (eT : T.heap = h) (A : OArr Z h a .int n f) {j : Int32} {k : Nat} (hj : j.toInt = (k : Int)) (hk : k < n) {v : Int32} (hv : f k = .int v) {g : JFrame} (hg : g.method = m) {rest : List Value} (hs : g.stack = .int j :: .ref a :: rest) (hd : decode c.code g.pc = .ok (.iaload, 1)) :
    ∀ target, Steps p.tables e below (T.setTop { g with pc := g.pc + 1, stack := .int v :: rest }) target → Steps p.tables e below (T.setTop g) target := by
  obtain ⟨cl, Ar, S, H⟩ := A
  have ha := H k hk
  rw [hv] at ha
  exact X.iaload hx (j := j) (v := .int v) (by rw [eT]; exact Ar.1) (State.isArrayOf_alike hZ.alike Ar.2.1) Ar.2.2 (o_in S hj hk) (by rw [(o_idx hj).2]; exact ha) hg hs hd
theorem oLdJ (X : Stand p l e R s m args below meth c T locs cells slots) (hx : p.tables.exec = Jvm.exec) (hZ : Z.Warmed39 s.vm) (eT : T.heap = h) (A : OArr Z h a .long n f) {j : Int32} {k : Nat} (hj : j.toInt = (k : Int)) (hk : k < n) {v : Int64} (hv : f k = .long v) {g : JFrame} (hg : g.method = m) {rest : List Value} (hs : g.stack = .int j :: .ref a :: rest) (hd : decode c.code g.pc = .ok (.laload, 1)) :
    ∀ target, Steps p.tables e below (T.setTop { g with pc := g.pc + 1, stack := .long v :: rest }) target → Steps p.tables e below (T.setTop g) target := by
  obtain ⟨cl, Ar, S, H⟩ := A
  have ha := H k hk
  rw [hv] at ha
  exact X.laload hx (j := j) (v := .long v) (by rw [eT]; exact Ar.1) (State.isArrayOf_alike hZ.alike Ar.2.1) Ar.2.2 (o_in S hj hk) (by rw [(o_idx hj).2]; exact ha) hg hs hd
theorem oLdZ (X : Stand p l e R s m args below meth c T locs cells slots) (hx : p.tables.exec = Jvm.exec) (hZ : Z.Warmed39 s.vm) (eT : T.heap = h) (A : OArr Z h a .boolean n f) {j : Int32} {k : Nat} (hj : j.toInt = (k : Int)) (hk : k < n) {v : Int32} (hv : f k = .int v) {g : JFrame} (hg : g.method = m) {rest : List Value} (hs : g.stack = .int j :: .ref a :: rest) (hd : decode c.code g.pc = .ok (.baload, 1)) :
    ∀ target, Steps p.tables e below (T.setTop { g with pc := g.pc + 1, stack := .int v :: rest }) target → Steps p.tables e below (T.setTop g) target := by
  obtain ⟨cl, Ar, S, H⟩ := A
  have ha := H k hk
  rw [hv] at ha
  exact X.baloadBooleans hx (j := j) (v := .int v) (by rw [eT]; exact Ar.1) (State.isArrayOf_alike hZ.alike Ar.2.1) Ar.2.2 (o_in S hj hk) (by rw [(o_idx hj).2]; exact ha) hg hs hd
theorem oLdB (X : Stand p l e R s m args below meth c T locs cells slots) (hx : p.tables.exec = Jvm.exec) (hZ : Z.Warmed39 s.vm) (eT : T.heap = h) (A : OArr Z h a .byte n f) {j : Int32} {k : Nat} (hj : j.toInt = (k : Int)) (hk : k < n) {v : Int32} (hv : f k = .int v) {g : JFrame} (hg : g.method = m) {rest : List Value} (hs : g.stack = .int j :: .ref a :: rest) (hd : decode c.code g.pc = .ok (.baload, 1)) :
    ∀ target, Steps p.tables e below (T.setTop { g with pc := g.pc + 1, stack := .int v :: rest }) target → Steps p.tables e below (T.setTop g) target := by
  obtain ⟨cl, Ar, S, H⟩ := A
  have ha := H k hk
  rw [hv] at ha
  exact X.baloadBytes hx (j := j) (v := .int v) (by rw [eT]; exact Ar.1) (State.isArrayOf_alike hZ.alike Ar.2.1) Ar.2.2 (o_in S hj hk) (by rw [(o_idx hj).2]; exact ha) hg hs hd
theorem oLen {ty : FieldType} (X : Stand p l e R s m args below meth c T locs cells slots) (hx : p.tables.exec = Jvm.exec) (hZ : Z.Warmed39 s.vm) (eT : T.heap = h) (A : OArr Z h a ty n f) {N : Int32} (hN : N.toInt = (n : Int)) {g : JFrame} (hg : g.method = m) {rest : List Value} (hs : g.stack = .ref a :: rest) (hd : decode c.code g.pc = .ok (.arraylength, 1)) :
    ∀ target, Steps p.tables e below (T.setTop { g with pc := g.pc + 1, stack := .int N :: rest }) target → Steps p.tables e below (T.setTop g) target := by
  obtain ⟨cl, Ar, S, H⟩ := A
  have q := X.arraylength hx (by rw [eT]; exact Ar.1) (State.isArrayOf_alike hZ.alike Ar.2.1) hg hs hd
  have e1 : cl.slots.size.toInt32 = N := len_of (by rw [S]; exact (o_idx hN).2.symm) (o_idx hN).1
  rw [e1] at q
  exact q
theorem oNew (X : Stand p l e R s m args below meth c T locs cells slots) (hx : p.tables.exec = Jvm.exec) (hZ : Z.Warmed39 s.vm) {aty : ArrayType} (w : (Cond.arrayClass (newarray.typeOf aty)).before a0 Z = true) (eT : T.heap = h) {g : JFrame} (hg : g.method = m) (hd : decode c.code g.pc = .ok (.newarray aty, 2)) {z : Int32} {rest : List Value} (hs : g.stack = .int z :: rest)
    {k cap : Nat} (hn : z.toInt = (k : Int)) (hcap : k ≤ cap) (hb : cap * 8 ≤ 536870912) (hc : cells + 1 ≤ R.cells) (hl : slots + cap ≤ R.slots) :
    ∃ T' h', Stand p l e R s m args below meth c T' locs (cells + 1) (slots + cap) ∧ T'.heap = h' ∧ Ext h h' ∧ OArr Z h' h.size (newarray.typeOf aty) k (fun _ => defaultValue (newarray.typeOf aty)) ∧
      ∀ target, Steps p.tables e below (T'.setTop { g with pc := g.pc + 2, stack := .ref h.size :: rest }) target → Steps p.tables e below (T.setTop g) target := by
  obtain ⟨q1, q2⟩ := o_idx hn
  obtain ⟨T', h', cA, X', e', E', A', st⟩ := newP X hx hZ w eT hg hd hs q1 (cap := cap) (by rw [q2]; exact hcap) hb hc hl
  refine ⟨T', h', X', e', E', ⟨_, A', by rw [sz_new, q2], fun i hi => ?_⟩, st⟩
  simp [newA, q2, hi]
end OArrLaws

theorem own_b1 {P : Prop} [Decidable P] (h : P) : (1 : Int32) = if P then 1 else 0 := (if_pos h).symm
theorem own_b0 {P : Prop} [Decidable P] (h : ¬ P) : (0 : Int32) = if P then 1 else 0 := (if_neg h).symm
abbrev own_P (c : Int32) : Prop := (¬ c < (127 : Int32) ∧ ¬ (132 : Int32) < c) ∨ (¬ c < (134 : Int32) ∧ ¬ (159 : Int32) < c) ∨ (¬ c < (64976 : Int32) ∧ ¬ (65007 : Int32) < c) ∨ (¬ c < (131070 : Int32) ∧ ¬ (1114111 : Int32) < c ∧ (c &&& (65534 : Int32)) = (65534 : Int32))
abbrev own_C (c : Int32) : Prop := ¬ c < (127 : Int32) ∧ ¬ (159 : Int32) < c ∧ ¬ c = (133 : Int32)
abbrev own_A (c : Int32) : Prop := ¬ c < (64976 : Int32) ∧ ¬ (65007 : Int32) < c
abbrev own_N (c : Int32) : Prop := ¬ c < (65536 : Int32) ∧ ¬ (1114111 : Int32) < c ∧ ¬ (c &&& (65535 : Int32)) < (65534 : Int32)
abbrev own_E (c : Int32) : Prop := own_C c ∨ own_A c ∨ own_N c
theorem own_toInt (c : Int32) : c.toInt = if 2 * c.toBitVec.toNat < 4294967296 then (c.toBitVec.toNat : Int) else (c.toBitVec.toNat : Int) - 4294967296 := by
  show c.toBitVec.toInt = _
  rw [BitVec.toInt_eq_toNat_cond]; rfl
theorem own_m16 (x : BitVec 32) : (x &&& 65535#32).toNat = x.toNat % 65536 := by
  rw [BitVec.toNat_and]; exact Nat.and_two_pow_sub_one_eq_mod x.toNat 16
theorem own_m15 (x : BitVec 32) : (x &&& 65534#32).toNat = x.toNat % 65536 - x.toNat % 2 := by
  have e : (x &&& 65534#32) = (x &&& 65535#32) - (x &&& 1#32) := by
    have e1 : (x &&& 65535#32) = (x &&& 65534#32) ||| (x &&& 1#32) := by
      rw [← BitVec.and_or_distrib_left]; rfl
    have e2 : (x &&& 65534#32) + (x &&& 1#32) = (x &&& 65534#32) ||| (x &&& 1#32) := by
      refine BitVec.add_eq_or_of_and_eq_zero _ _ ?_
      have : (x &&& 65534#32) &&& (x &&& 1#32) = (x &&& x) &&& (65534#32 &&& 1#32) := by ac_rfl
      rw [this, show (65534#32 &&& 1#32) = 0#32 from rfl]; simp
    rw [e1, ← e2, BitVec.add_sub_cancel]
  have h16 := own_m16 x
  have h1 : (x &&& 1#32).toNat = x.toNat % 2 := by rw [BitVec.toNat_and]; exact Nat.and_two_pow_sub_one_eq_mod x.toNat 1
  rw [e, BitVec.toNat_sub, h16, h1]
  omega
theorem own_same (c : Int32) : own_P c ↔ own_E c := by
  have hc := own_toInt c
  have hlt := c.toBitVec.isLt
  have h1 := own_toInt (c &&& 65535)
  have h2 := own_toInt (c &&& 65534)
  have e1 : (c &&& 65535).toBitVec.toNat = c.toBitVec.toNat % 65536 := own_m16 c.toBitVec
  have e2 : (c &&& 65534).toBitVec.toNat = c.toBitVec.toNat % 65536 - c.toBitVec.toNat % 2 := own_m15 c.toBitVec
  simp only [own_P, own_E, own_C, own_A, own_N, Int32.lt_iff_toInt_lt, ← Int32.toInt_inj]
  have k1 : (127 : Int32).toInt = 127 := rfl
  have k2 : (132 : Int32).toInt = 132 := rfl
  have k3 : (134 : Int32).toInt = 134 := rfl
  have k4 : (159 : Int32).toInt = 159 := rfl
  have k5 : (64976 : Int32).toInt = 64976 := rfl
  have k6 : (65007 : Int32).toInt = 65007 := rfl
  have k7 : (131070 : Int32).toInt = 131070 := rfl
  have k8 : (1114111 : Int32).toInt = 1114111 := rfl
  have k9 : (65534 : Int32).toInt = 65534 := rfl
  have k10 : (133 : Int32).toInt = 133 := rfl
  have k11 : (65536 : Int32).toInt = 65536 := rfl
  rw [k1, k2, k3, k4, k5, k6, k7, k8, k9, k10, k11]
  generalize (c &&& 65535).toInt = o at *
  generalize (c &&& 65534).toInt = d at *
  generalize (c &&& 65535).toBitVec.toNat = on at *
  generalize (c &&& 65534).toBitVec.toNat = dn at *
  generalize c.toInt = ci at *
  generalize c.toBitVec.toNat = cn at *
  split at hc <;> split at h1 <;> split at h2 <;> omega
theorem own_ushr (x : Int32) : 0 ≤ ((x.toUInt32 >>> ((2 : Int32) &&& 31).toUInt32).toInt32).toInt ∧ ((x.toUInt32 >>> ((2 : Int32) &&& 31).toUInt32).toInt32).toInt < 1073741824 := by
  have e : ((x.toUInt32 >>> ((2 : Int32) &&& 31).toUInt32).toInt32).toBitVec = x.toBitVec >>> 2 := rfl
  have q := own_toInt ((x.toUInt32 >>> ((2 : Int32) &&& 31).toUInt32).toInt32)
  rw [e, BitVec.toNat_ushiftRight, Nat.shiftRight_eq_div_pow] at q
  have := x.toBitVec.isLt
  rw [q]
  split <;> omega
theorem own_rem (x : Int32) (h : 0 ≤ x.toInt) : ∃ k : Nat, k < 10 ∧ (x % (10 : Int32)).toInt = (k : Int) := by
  have e : (x % (10 : Int32)).toInt = x.toInt % 10 := by
    rw [Int32.toInt_mod]; show x.toInt.tmod 10 = _
    rw [Int.tmod_eq_emod_of_nonneg h]
  exact ⟨(x.toInt % 10).toNat, by omega, by rw [e]; omega⟩
def own_AI (f : Nat → Value) : Prop := ∀ i, ∃ z : Int32, f i = .int z
theorem own_AI.upd {f : Nat → Value} (h : own_AI f) (k : Nat) (z : Int32) : own_AI (oUpd f k (.int z)) := fun i => by
  by_cases q : i = k
  · exact ⟨z, by rw [q, oUpd_same]⟩
  · rw [oUpd_ne q]; exact h i

theorem dA_0 : decode prog_13_method_9_code 0 = .ok (.iload_n 0, 1) := by decide +kernel
theorem dA_1 : decode prog_13_method_9_code 1 = .ok (.bipush 127, 2) := by decide +kernel
theorem dA_3 : decode prog_13_method_9_code 3 = .ok (.if_icmp .lt 10, 3) := by decide +kernel
theorem dA_6 : decode prog_13_method_9_code 6 = .ok (.iload_n 0, 1) := by decide +kernel
theorem dA_7 : decode prog_13_method_9_code 7 = .ok (.sipush 132, 3) := by decide +kernel
theorem dA_10 : decode prog_13_method_9_code 10 = .ok (.if_icmp .le 50, 3) := by decide +kernel
theorem dA_13 : decode prog_13_method_9_code 13 = .ok (.iload_n 0, 1) := by decide +kernel
theorem dA_14 : decode prog_13_method_9_code 14 = .ok (.sipush 134, 3) := by decide +kernel
theorem dA_17 : decode prog_13_method_9_code 17 = .ok (.if_icmp .lt 10, 3) := by decide +kernel
theorem dA_20 : decode prog_13_method_9_code 20 = .ok (.iload_n 0, 1) := by decide +kernel
theorem dA_21 : decode prog_13_method_9_code 21 = .ok (.sipush 159, 3) := by decide +kernel
theorem dA_24 : decode prog_13_method_9_code 24 = .ok (.if_icmp .le 36, 3) := by decide +kernel
theorem dA_27 : decode prog_13_method_9_code 27 = .ok (.iload_n 0, 1) := by decide +kernel
theorem dA_28 : decode prog_13_method_9_code 28 = .ok (.ldc 29, 2) := by decide +kernel
theorem dA_30 : decode prog_13_method_9_code 30 = .ok (.if_icmp .lt 9, 3) := by decide +kernel
theorem dA_33 : decode prog_13_method_9_code 33 = .ok (.iload_n 0, 1) := by decide +kernel
theorem dA_34 : decode prog_13_method_9_code 34 = .ok (.ldc 30, 2) := by decide +kernel
theorem dA_36 : decode prog_13_method_9_code 36 = .ok (.if_icmp .le 24, 3) := by decide +kernel
theorem dA_39 : decode prog_13_method_9_code 39 = .ok (.iload_n 0, 1) := by decide +kernel
theorem dA_40 : decode prog_13_method_9_code 40 = .ok (.ldc 31, 2) := by decide +kernel
theorem dA_42 : decode prog_13_method_9_code 42 = .ok (.if_icmp .lt 22, 3) := by decide +kernel
theorem dA_45 : decode prog_13_method_9_code 45 = .ok (.iload_n 0, 1) := by decide +kernel
theorem dA_46 : decode prog_13_method_9_code 46 = .ok (.ldc 11, 2) := by decide +kernel
theorem dA_48 : decode prog_13_method_9_code 48 = .ok (.if_icmp .gt 16, 3) := by decide +kernel
theorem dA_51 : decode prog_13_method_9_code 51 = .ok (.iload_n 0, 1) := by decide +kernel
theorem dA_52 : decode prog_13_method_9_code 52 = .ok (.ldc 32, 2) := by decide +kernel
theorem dA_54 : decode prog_13_method_9_code 54 = .ok (.iand, 1) := by decide +kernel
theorem dA_55 : decode prog_13_method_9_code 55 = .ok (.ldc 32, 2) := by decide +kernel
theorem dA_57 : decode prog_13_method_9_code 57 = .ok (.if_icmp .ne 7, 3) := by decide +kernel
theorem dA_60 : decode prog_13_method_9_code 60 = .ok (.iconst 1, 1) := by decide +kernel
theorem dA_61 : decode prog_13_method_9_code 61 = .ok (.goto 4, 3) := by decide +kernel
theorem dA_64 : decode prog_13_method_9_code 64 = .ok (.iconst 0, 1) := by decide +kernel
theorem dA_65 : decode prog_13_method_9_code 65 = .ok (.ireturn, 1) := by decide +kernel
theorem pnA : plainName "com/example/godwit/godwit/XmlChars" = true := by first | (simp [plainName, overriddenIn]; done) | decide +kernel
theorem efA (m : MethodId) (p1 : Int32) : entryFrame m #[(.int p1)] 1 = mkF m 0 #[.val (.int p1)] [] := by first | (simp [entryFrame, mkF, argsToLocals, Value.category]; done) | rfl
def QA (Z : State) (p1 : Int32) (h0 : Heap) (n0 : Nat) (v : Option Value) (h : Heap) (L : List Loc) : Prop := v = some (.int (if own_P p1 then 1 else 0)) ∧ Fr n0 L ∧ h = h0
set_option maxRecDepth 65536 in
set_option maxHeartbeats 40000000 in
theorem rmA (l : Launch) (Z : State) (a0 : Array Value) (hw : ∀ d ∈ tables_1, d.before a0 Z = true) (ws : List Jvm.Cond) (p1 : Int32) (h0 : Heap) (n0 : Nat) (Z0 : n0 ≤ h0.size) :
    MetFree l (⟨"com/example/godwit/godwit/XmlChars", "isDiscouraged", "(I)Z"⟩ : MethodName) (head1 (Jvm.Cond.code (⟨"com/example/godwit/godwit/XmlChars", "isDiscouraged", "(I)Z"⟩ : MethodName) prog_13_method_9_code 1 (some .boolean) :: ws) ({ frames := 0, cells := 0, slots := 0, locals := 0 } : Room)) (fun a U => a = #[(.int p1)] ∧ Z.Warmed39 U.vm ∧ U.heap = h0) (fun _ _ _ _ _ => True) (fun _ U o U' => ∃ v L, o = .returned v ∧ QA Z p1 h0 n0 v U'.heap L ∧ FrameEnd U o U' L ({ frames := 0, cells := 0, slots := 0, locals := 0 } : Room).cells ({ frames := 0, cells := 0, slots := 0, locals := 0 } : Room).slots) := by
  refine MetFree.of_bodySF (plainFor_of_name pnA) hisR ?_
  intro p e s m args below meth c s₁ Bd hml0 hP hK
  obtain ⟨rfl, hZ, hh⟩ := hP
  have hx := Bd.exec
  have hby := Bd.bytes
  have hml : c.maxLocals = 1 := hml0
  have hown : s.vm.findClass "com/example/godwit/godwit/XmlChars" = some m.cls := findClass_of_methodNamed Bd.named
  have hnm := (name_of_methodNamed Bd.named Bd.method).1
  have X0 : Stand p l e ({ frames := 0, cells := 0, slots := 0, locals := 0 } : Room) s m #[(.int p1)] below meth c s₁ [] 0 0 := Stand.of_body Bd
  have e0 : s₁.heap = h0 := by rw [← hh, Bd.state]; rfl
  have N0 := Fr.nil n0
  have pre0 : ∀ t, Steps p.tables e below (s₁.setTop (mkF m 0 #[.val (.int p1)] [])) t → Steps p.tables e below (s₁.setTop (entryFrame m #[(.int p1)] 1)) t := fun t k => castTop (efA m p1) k
  have pre1 : ∀ t_, Steps p.tables e below (s₁.setTop (mkF m 3 #[.val (.int p1)] [(.int (127 : Int32)), (.int p1)])) t_ → Steps p.tables e below (s₁.setTop (entryFrame m #[(.int p1)] 1)) t_ := fun t_ k_ => pre0 t_ (by
      refine XS.iloadN X0.here hx rfl (hb hby dA_0) rfl ?_
      show Steps p.tables e below (s₁.setTop (mkF m 1 #[.val (.int p1)] [(.int p1)])) _
      refine XS.bipush X0.here hx rfl (hb hby dA_1) ?_
      show Steps p.tables e below (s₁.setTop (mkF m 3 #[.val (.int p1)] [(.int (127 : Int32)), (.int p1)])) _
      exact k_)
  by_cases c3_2 : p1 < (127 : Int32)
  · have pre3 : ∀ t_, Steps p.tables e below (s₁.setTop (mkF m 17 #[.val (.int p1)] [(.int (134 : Int32)), (.int p1)])) t_ → Steps p.tables e below (s₁.setTop (entryFrame m #[(.int p1)] 1)) t_ := fun t_ k_ => pre1 t_ (by
        refine XS.icmpYes X0.here hx rfl (pc0 := 3) (pc' := 13) rfl (hb hby dA_3) rfl (tlt c3_2).1 (by decide) (by decide) ?_
        show Steps p.tables e below (s₁.setTop (mkF m 13 #[.val (.int p1)] [])) _
        refine XS.iloadN X0.here hx rfl (hb hby dA_13) rfl ?_
        show Steps p.tables e below (s₁.setTop (mkF m 14 #[.val (.int p1)] [(.int p1)])) _
        refine XS.sipush X0.here hx rfl (hb hby dA_14) ?_
        show Steps p.tables e below (s₁.setTop (mkF m 17 #[.val (.int p1)] [(.int (134 : Int32)), (.int p1)])) _
        exact k_)
    by_cases c17_4 : p1 < (134 : Int32)
    · have pre5 : ∀ t_, Steps p.tables e below (s₁.setTop (mkF m 30 #[.val (.int p1)] [(.int (64976 : Int32)), (.int p1)])) t_ → Steps p.tables e below (s₁.setTop (entryFrame m #[(.int p1)] 1)) t_ := fun t_ k_ => pre3 t_ (by
          refine XS.icmpYes X0.here hx rfl (pc0 := 17) (pc' := 27) rfl (hb hby dA_17) rfl (tlt c17_4).1 (by decide) (by decide) ?_
          show Steps p.tables e below (s₁.setTop (mkF m 27 #[.val (.int p1)] [])) _
          refine XS.iloadN X0.here hx rfl (hb hby dA_27) rfl ?_
          show Steps p.tables e below (s₁.setTop (mkF m 28 #[.val (.int p1)] [(.int p1)])) _
          refine X0.ldcInt hx hown (mvT hZ (hw _ (List.mem_of_getElem? (i := 4) rfl))) (g := (mkF m 28 #[.val (.int p1)] [(.int p1)])) rfl (hb hby dA_28) _ ?_
          show Steps p.tables e below (s₁.setTop (mkF m 30 #[.val (.int p1)] [(.int (64976 : Int32)), (.int p1)])) _
          exact k_)
      by_cases c30_6 : p1 < (64976 : Int32)
      · have pre7 : ∀ t_, Steps p.tables e below (s₁.setTop (mkF m 42 #[.val (.int p1)] [(.int (131070 : Int32)), (.int p1)])) t_ → Steps p.tables e below (s₁.setTop (entryFrame m #[(.int p1)] 1)) t_ := fun t_ k_ => pre5 t_ (by
            refine XS.icmpYes X0.here hx rfl (pc0 := 30) (pc' := 39) rfl (hb hby dA_30) rfl (tlt c30_6).1 (by decide) (by decide) ?_
            show Steps p.tables e below (s₁.setTop (mkF m 39 #[.val (.int p1)] [])) _
            refine XS.iloadN X0.here hx rfl (hb hby dA_39) rfl ?_
            show Steps p.tables e below (s₁.setTop (mkF m 40 #[.val (.int p1)] [(.int p1)])) _
            refine X0.ldcInt hx hown (mvT hZ (hw _ (List.mem_of_getElem? (i := 5) rfl))) (g := (mkF m 40 #[.val (.int p1)] [(.int p1)])) rfl (hb hby dA_40) _ ?_
            show Steps p.tables e below (s₁.setTop (mkF m 42 #[.val (.int p1)] [(.int (131070 : Int32)), (.int p1)])) _
            exact k_)
        by_cases c42_8 : p1 < (131070 : Int32)
        · have pre9 : ∀ t_, Steps p.tables e below (s₁.setTop (mkF m 65 #[.val (.int p1)] [(.int (0 : Int32))])) t_ → Steps p.tables e below (s₁.setTop (entryFrame m #[(.int p1)] 1)) t_ := fun t_ k_ => pre7 t_ (by
              refine XS.icmpYes X0.here hx rfl (pc0 := 42) (pc' := 64) rfl (hb hby dA_42) rfl (tlt c42_8).1 (by decide) (by decide) ?_
              show Steps p.tables e below (s₁.setTop (mkF m 64 #[.val (.int p1)] [])) _
              refine XS.iconst X0.here hx rfl (hb hby dA_64) ?_
              show Steps p.tables e below (s₁.setTop (mkF m 65 #[.val (.int p1)] [(.int (0 : Int32))])) _
              exact k_)
          obtain ⟨fs, hr, hrun, hended, hW, hsame⟩ := X0.leave (v := some (.int (0 : Int32))) (fun h => by rw [Bd.returns] at h; cases h)
          refine ⟨_, _, pre9 _ ?_, hrun, hended, _, _, rfl, ?_, ⟨_, rfl⟩, hW, hsame.mono (by decide) (by decide)⟩
          · exact retN X0 hx (t := .boolean) Bd.returns (by simp) (hb hby dA_65) hr
          · show QA Z p1 h0 n0 _ s₁.heap _
            rw [e0]
            exact ⟨congrArg (fun z => some (Value.int z)) (own_b0 (P := own_P p1) (by simp [own_P, c3_2, c17_4, c30_6, c42_8])), N0, rfl⟩
        · have pre10 : ∀ t_, Steps p.tables e below (s₁.setTop (mkF m 48 #[.val (.int p1)] [(.int (1114111 : Int32)), (.int p1)])) t_ → Steps p.tables e below (s₁.setTop (entryFrame m #[(.int p1)] 1)) t_ := fun t_ k_ => pre7 t_ (by
              refine XS.icmpNo X0.here hx rfl (hb hby dA_42) rfl (flt c42_8).1 ?_
              show Steps p.tables e below (s₁.setTop (mkF m 45 #[.val (.int p1)] [])) _
              refine XS.iloadN X0.here hx rfl (hb hby dA_45) rfl ?_
              show Steps p.tables e below (s₁.setTop (mkF m 46 #[.val (.int p1)] [(.int p1)])) _
              refine X0.ldcInt hx hown (mvT hZ (hw _ (List.mem_of_getElem? (i := 21) rfl))) (g := (mkF m 46 #[.val (.int p1)] [(.int p1)])) rfl (hb hby dA_46) _ ?_
              show Steps p.tables e below (s₁.setTop (mkF m 48 #[.val (.int p1)] [(.int (1114111 : Int32)), (.int p1)])) _
              exact k_)
          by_cases c48_11 : (1114111 : Int32) < p1
          · have pre12 : ∀ t_, Steps p.tables e below (s₁.setTop (mkF m 65 #[.val (.int p1)] [(.int (0 : Int32))])) t_ → Steps p.tables e below (s₁.setTop (entryFrame m #[(.int p1)] 1)) t_ := fun t_ k_ => pre10 t_ (by
                refine XS.icmpYes X0.here hx rfl (pc0 := 48) (pc' := 64) rfl (hb hby dA_48) rfl (tlt c48_11).2.2.1 (by decide) (by decide) ?_
                show Steps p.tables e below (s₁.setTop (mkF m 64 #[.val (.int p1)] [])) _
                refine XS.iconst X0.here hx rfl (hb hby dA_64) ?_
                show Steps p.tables e below (s₁.setTop (mkF m 65 #[.val (.int p1)] [(.int (0 : Int32))])) _
                exact k_)
            obtain ⟨fs, hr, hrun, hended, hW, hsame⟩ := X0.leave (v := some (.int (0 : Int32))) (fun h => by rw [Bd.returns] at h; cases h)
            refine ⟨_, _, pre12 _ ?_, hrun, hended, _, _, rfl, ?_, ⟨_, rfl⟩, hW, hsame.mono (by decide) (by decide)⟩
            · exact retN X0 hx (t := .boolean) Bd.returns (by simp) (hb hby dA_65) hr
            · show QA Z p1 h0 n0 _ s₁.heap _
              rw [e0]
              exact ⟨congrArg (fun z => some (Value.int z)) (own_b0 (P := own_P p1) (by simp [own_P, c3_2, c17_4, c30_6, c42_8, c48_11])), N0, rfl⟩
          · have pre13 : ∀ t_, Steps p.tables e below (s₁.setTop (mkF m 57 #[.val (.int p1)] [(.int (65534 : Int32)), (.int (p1 &&& (65534 : Int32)))])) t_ → Steps p.tables e below (s₁.setTop (entryFrame m #[(.int p1)] 1)) t_ := fun t_ k_ => pre10 t_ (by
                refine XS.icmpNo X0.here hx rfl (hb hby dA_48) rfl (flt c48_11).2.2.1 ?_
                show Steps p.tables e below (s₁.setTop (mkF m 51 #[.val (.int p1)] [])) _
                refine XS.iloadN X0.here hx rfl (hb hby dA_51) rfl ?_
                show Steps p.tables e below (s₁.setTop (mkF m 52 #[.val (.int p1)] [(.int p1)])) _
                refine X0.ldcInt hx hown (mvT hZ (hw _ (List.mem_of_getElem? (i := 23) rfl))) (g := (mkF m 52 #[.val (.int p1)] [(.int p1)])) rfl (hb hby dA_52) _ ?_
                show Steps p.tables e below (s₁.setTop (mkF m 54 #[.val (.int p1)] [(.int (65534 : Int32)), (.int p1)])) _
                refine XS.iand X0.here hx rfl (hb hby dA_54) rfl ?_
                show Steps p.tables e below (s₁.setTop (mkF m 55 #[.val (.int p1)] [(.int (p1 &&& (65534 : Int32)))])) _
                refine X0.ldcInt hx hown (mvT hZ (hw _ (List.mem_of_getElem? (i := 23) rfl))) (g := (mkF m 55 #[.val (.int p1)] [(.int (p1 &&& (65534 : Int32)))])) rfl (hb hby dA_55) _ ?_
                show Steps p.tables e below (s₁.setTop (mkF m 57 #[.val (.int p1)] [(.int (65534 : Int32)), (.int (p1 &&& (65534 : Int32)))])) _
                exact k_)
            by_cases c57_14 : (p1 &&& (65534 : Int32)) = (65534 : Int32)
            · have pre15 : ∀ t_, Steps p.tables e below (s₁.setTop (mkF m 65 #[.val (.int p1)] [(.int (1 : Int32))])) t_ → Steps p.tables e below (s₁.setTop (entryFrame m #[(.int p1)] 1)) t_ := fun t_ k_ => pre13 t_ (by
                  refine XS.icmpNo X0.here hx rfl (hb hby dA_57) rfl (teq c57_14).2 ?_
                  show Steps p.tables e below (s₁.setTop (mkF m 60 #[.val (.int p1)] [])) _
                  refine XS.iconst X0.here hx rfl (hb hby dA_60) ?_
                  show Steps p.tables e below (s₁.setTop (mkF m 61 #[.val (.int p1)] [(.int (1 : Int32))])) _
                  refine XS.goto X0.here hx rfl (pc0 := 61) (pc' := 65) rfl (hb hby dA_61) (by decide) (by decide) ?_
                  show Steps p.tables e below (s₁.setTop (mkF m 65 #[.val (.int p1)] [(.int (1 : Int32))])) _
                  exact k_)
              obtain ⟨fs, hr, hrun, hended, hW, hsame⟩ := X0.leave (v := some (.int (1 : Int32))) (fun h => by rw [Bd.returns] at h; cases h)
              refine ⟨_, _, pre15 _ ?_, hrun, hended, _, _, rfl, ?_, ⟨_, rfl⟩, hW, hsame.mono (by decide) (by decide)⟩
              · exact retN X0 hx (t := .boolean) Bd.returns (by simp) (hb hby dA_65) hr
              · show QA Z p1 h0 n0 _ s₁.heap _
                rw [e0]
                exact ⟨congrArg (fun z => some (Value.int z)) (own_b1 (P := own_P p1) (by simp [own_P, c3_2, c17_4, c30_6, c42_8, c48_11, c57_14])), N0, rfl⟩
            · have pre16 : ∀ t_, Steps p.tables e below (s₁.setTop (mkF m 65 #[.val (.int p1)] [(.int (0 : Int32))])) t_ → Steps p.tables e below (s₁.setTop (entryFrame m #[(.int p1)] 1)) t_ := fun t_ k_ => pre13 t_ (by
                  refine XS.icmpYes X0.here hx rfl (pc0 := 57) (pc' := 64) rfl (hb hby dA_57) rfl (feq c57_14).2 (by decide) (by decide) ?_
                  show Steps p.tables e below (s₁.setTop (mkF m 64 #[.val (.int p1)] [])) _
                  refine XS.iconst X0.here hx rfl (hb hby dA_64) ?_
                  show Steps p.tables e below (s₁.setTop (mkF m 65 #[.val (.int p1)] [(.int (0 : Int32))])) _
                  exact k_)
              obtain ⟨fs, hr, hrun, hended, hW, hsame⟩ := X0.leave (v := some (.int (0 : Int32))) (fun h => by rw [Bd.returns] at h; cases h)
              refine ⟨_, _, pre16 _ ?_, hrun, hended, _, _, rfl, ?_, ⟨_, rfl⟩, hW, hsame.mono (by decide) (by decide)⟩
              · exact retN X0 hx (t := .boolean) Bd.returns (by simp) (hb hby dA_65) hr
              · show QA Z p1 h0 n0 _ s₁.heap _
                rw [e0]
                exact ⟨congrArg (fun z => some (Value.int z)) (own_b0 (P := own_P p1) (by simp [own_P, c3_2, c17_4, c30_6, c42_8, c48_11, c57_14])), N0, rfl⟩
      · have pre17 : ∀ t_, Steps p.tables e below (s₁.setTop (mkF m 36 #[.val (.int p1)] [(.int (65007 : Int32)), (.int p1)])) t_ → Steps p.tables e below (s₁.setTop (entryFrame m #[(.int p1)] 1)) t_ := fun t_ k_ => pre5 t_ (by
            refine XS.icmpNo X0.here hx rfl (hb hby dA_30) rfl (flt c30_6).1 ?_
            show Steps p.tables e below (s₁.setTop (mkF m 33 #[.val (.int p1)] [])) _
            refine XS.iloadN X0.here hx rfl (hb hby dA_33) rfl ?_
            show Steps p.tables e below (s₁.setTop (mkF m 34 #[.val (.int p1)] [(.int p1)])) _
            refine X0.ldcInt hx hown (mvT hZ (hw _ (List.mem_of_getElem? (i := 19) rfl))) (g := (mkF m 34 #[.val (.int p1)] [(.int p1)])) rfl (hb hby dA_34) _ ?_
            show Steps p.tables e below (s₁.setTop (mkF m 36 #[.val (.int p1)] [(.int (65007 : Int32)), (.int p1)])) _
            exact k_)
        by_cases c36_18 : (65007 : Int32) < p1
        · have pre19 : ∀ t_, Steps p.tables e below (s₁.setTop (mkF m 42 #[.val (.int p1)] [(.int (131070 : Int32)), (.int p1)])) t_ → Steps p.tables e below (s₁.setTop (entryFrame m #[(.int p1)] 1)) t_ := fun t_ k_ => pre17 t_ (by
              refine XS.icmpNo X0.here hx rfl (hb hby dA_36) rfl (tlt c36_18).2.2.2 ?_
              show Steps p.tables e below (s₁.setTop (mkF m 39 #[.val (.int p1)] [])) _
              refine XS.iloadN X0.here hx rfl (hb hby dA_39) rfl ?_
              show Steps p.tables e below (s₁.setTop (mkF m 40 #[.val (.int p1)] [(.int p1)])) _
              refine X0.ldcInt hx hown (mvT hZ (hw _ (List.mem_of_getElem? (i := 5) rfl))) (g := (mkF m 40 #[.val (.int p1)] [(.int p1)])) rfl (hb hby dA_40) _ ?_
              show Steps p.tables e below (s₁.setTop (mkF m 42 #[.val (.int p1)] [(.int (131070 : Int32)), (.int p1)])) _
              exact k_)
          by_cases c42_20 : p1 < (131070 : Int32)
          · have pre21 : ∀ t_, Steps p.tables e below (s₁.setTop (mkF m 65 #[.val (.int p1)] [(.int (0 : Int32))])) t_ → Steps p.tables e below (s₁.setTop (entryFrame m #[(.int p1)] 1)) t_ := fun t_ k_ => pre19 t_ (by
                refine XS.icmpYes X0.here hx rfl (pc0 := 42) (pc' := 64) rfl (hb hby dA_42) rfl (tlt c42_20).1 (by decide) (by decide) ?_
                show Steps p.tables e below (s₁.setTop (mkF m 64 #[.val (.int p1)] [])) _
                refine XS.iconst X0.here hx rfl (hb hby dA_64) ?_
                show Steps p.tables e below (s₁.setTop (mkF m 65 #[.val (.int p1)] [(.int (0 : Int32))])) _
                exact k_)
            obtain ⟨fs, hr, hrun, hended, hW, hsame⟩ := X0.leave (v := some (.int (0 : Int32))) (fun h => by rw [Bd.returns] at h; cases h)
            refine ⟨_, _, pre21 _ ?_, hrun, hended, _, _, rfl, ?_, ⟨_, rfl⟩, hW, hsame.mono (by decide) (by decide)⟩
            · exact retN X0 hx (t := .boolean) Bd.returns (by simp) (hb hby dA_65) hr
            · show QA Z p1 h0 n0 _ s₁.heap _
              rw [e0]
              exact ⟨congrArg (fun z => some (Value.int z)) (own_b0 (P := own_P p1) (by simp [own_P, c3_2, c17_4, c30_6, c36_18, c42_20])), N0, rfl⟩
          · have pre22 : ∀ t_, Steps p.tables e below (s₁.setTop (mkF m 48 #[.val (.int p1)] [(.int (1114111 : Int32)), (.int p1)])) t_ → Steps p.tables e below (s₁.setTop (entryFrame m #[(.int p1)] 1)) t_ := fun t_ k_ => pre19 t_ (by
                refine XS.icmpNo X0.here hx rfl (hb hby dA_42) rfl (flt c42_20).1 ?_
                show Steps p.tables e below (s₁.setTop (mkF m 45 #[.val (.int p1)] [])) _
                refine XS.iloadN X0.here hx rfl (hb hby dA_45) rfl ?_
                show Steps p.tables e below (s₁.setTop (mkF m 46 #[.val (.int p1)] [(.int p1)])) _
                refine X0.ldcInt hx hown (mvT hZ (hw _ (List.mem_of_getElem? (i := 21) rfl))) (g := (mkF m 46 #[.val (.int p1)] [(.int p1)])) rfl (hb hby dA_46) _ ?_
                show Steps p.tables e below (s₁.setTop (mkF m 48 #[.val (.int p1)] [(.int (1114111 : Int32)), (.int p1)])) _
                exact k_)
            by_cases c48_23 : (1114111 : Int32) < p1
            · have pre24 : ∀ t_, Steps p.tables e below (s₁.setTop (mkF m 65 #[.val (.int p1)] [(.int (0 : Int32))])) t_ → Steps p.tables e below (s₁.setTop (entryFrame m #[(.int p1)] 1)) t_ := fun t_ k_ => pre22 t_ (by
                  refine XS.icmpYes X0.here hx rfl (pc0 := 48) (pc' := 64) rfl (hb hby dA_48) rfl (tlt c48_23).2.2.1 (by decide) (by decide) ?_
                  show Steps p.tables e below (s₁.setTop (mkF m 64 #[.val (.int p1)] [])) _
                  refine XS.iconst X0.here hx rfl (hb hby dA_64) ?_
                  show Steps p.tables e below (s₁.setTop (mkF m 65 #[.val (.int p1)] [(.int (0 : Int32))])) _
                  exact k_)
              obtain ⟨fs, hr, hrun, hended, hW, hsame⟩ := X0.leave (v := some (.int (0 : Int32))) (fun h => by rw [Bd.returns] at h; cases h)
              refine ⟨_, _, pre24 _ ?_, hrun, hended, _, _, rfl, ?_, ⟨_, rfl⟩, hW, hsame.mono (by decide) (by decide)⟩
              · exact retN X0 hx (t := .boolean) Bd.returns (by simp) (hb hby dA_65) hr
              · show QA Z p1 h0 n0 _ s₁.heap _
                rw [e0]
                exact ⟨congrArg (fun z => some (Value.int z)) (own_b0 (P := own_P p1) (by simp [own_P, c3_2, c17_4, c30_6, c36_18, c42_20, c48_23])), N0, rfl⟩
            · have pre25 : ∀ t_, Steps p.tables e below (s₁.setTop (mkF m 57 #[.val (.int p1)] [(.int (65534 : Int32)), (.int (p1 &&& (65534 : Int32)))])) t_ → Steps p.tables e below (s₁.setTop (entryFrame m #[(.int p1)] 1)) t_ := fun t_ k_ => pre22 t_ (by
                  refine XS.icmpNo X0.here hx rfl (hb hby dA_48) rfl (flt c48_23).2.2.1 ?_
                  show Steps p.tables e below (s₁.setTop (mkF m 51 #[.val (.int p1)] [])) _
                  refine XS.iloadN X0.here hx rfl (hb hby dA_51) rfl ?_
                  show Steps p.tables e below (s₁.setTop (mkF m 52 #[.val (.int p1)] [(.int p1)])) _
                  refine X0.ldcInt hx hown (mvT hZ (hw _ (List.mem_of_getElem? (i := 23) rfl))) (g := (mkF m 52 #[.val (.int p1)] [(.int p1)])) rfl (hb hby dA_52) _ ?_
                  show Steps p.tables e below (s₁.setTop (mkF m 54 #[.val (.int p1)] [(.int (65534 : Int32)), (.int p1)])) _
                  refine XS.iand X0.here hx rfl (hb hby dA_54) rfl ?_
                  show Steps p.tables e below (s₁.setTop (mkF m 55 #[.val (.int p1)] [(.int (p1 &&& (65534 : Int32)))])) _
                  refine X0.ldcInt hx hown (mvT hZ (hw _ (List.mem_of_getElem? (i := 23) rfl))) (g := (mkF m 55 #[.val (.int p1)] [(.int (p1 &&& (65534 : Int32)))])) rfl (hb hby dA_55) _ ?_
                  show Steps p.tables e below (s₁.setTop (mkF m 57 #[.val (.int p1)] [(.int (65534 : Int32)), (.int (p1 &&& (65534 : Int32)))])) _
                  exact k_)
              by_cases c57_26 : (p1 &&& (65534 : Int32)) = (65534 : Int32)
              · have pre27 : ∀ t_, Steps p.tables e below (s₁.setTop (mkF m 65 #[.val (.int p1)] [(.int (1 : Int32))])) t_ → Steps p.tables e below (s₁.setTop (entryFrame m #[(.int p1)] 1)) t_ := fun t_ k_ => pre25 t_ (by
                    refine XS.icmpNo X0.here hx rfl (hb hby dA_57) rfl (teq c57_26).2 ?_
                    show Steps p.tables e below (s₁.setTop (mkF m 60 #[.val (.int p1)] [])) _
                    refine XS.iconst X0.here hx rfl (hb hby dA_60) ?_
                    show Steps p.tables e below (s₁.setTop (mkF m 61 #[.val (.int p1)] [(.int (1 : Int32))])) _
                    refine XS.goto X0.here hx rfl (pc0 := 61) (pc' := 65) rfl (hb hby dA_61) (by decide) (by decide) ?_
                    show Steps p.tables e below (s₁.setTop (mkF m 65 #[.val (.int p1)] [(.int (1 : Int32))])) _
                    exact k_)
                obtain ⟨fs, hr, hrun, hended, hW, hsame⟩ := X0.leave (v := some (.int (1 : Int32))) (fun h => by rw [Bd.returns] at h; cases h)
                refine ⟨_, _, pre27 _ ?_, hrun, hended, _, _, rfl, ?_, ⟨_, rfl⟩, hW, hsame.mono (by decide) (by decide)⟩
                · exact retN X0 hx (t := .boolean) Bd.returns (by simp) (hb hby dA_65) hr
                · show QA Z p1 h0 n0 _ s₁.heap _
                  rw [e0]
                  exact ⟨congrArg (fun z => some (Value.int z)) (own_b1 (P := own_P p1) (by simp [own_P, c3_2, c17_4, c30_6, c36_18, c42_20, c48_23, c57_26])), N0, rfl⟩
              · have pre28 : ∀ t_, Steps p.tables e below (s₁.setTop (mkF m 65 #[.val (.int p1)] [(.int (0 : Int32))])) t_ → Steps p.tables e below (s₁.setTop (entryFrame m #[(.int p1)] 1)) t_ := fun t_ k_ => pre25 t_ (by
                    refine XS.icmpYes X0.here hx rfl (pc0 := 57) (pc' := 64) rfl (hb hby dA_57) rfl (feq c57_26).2 (by decide) (by decide) ?_
                    show Steps p.tables e below (s₁.setTop (mkF m 64 #[.val (.int p1)] [])) _
                    refine XS.iconst X0.here hx rfl (hb hby dA_64) ?_
                    show Steps p.tables e below (s₁.setTop (mkF m 65 #[.val (.int p1)] [(.int (0 : Int32))])) _
                    exact k_)
                obtain ⟨fs, hr, hrun, hended, hW, hsame⟩ := X0.leave (v := some (.int (0 : Int32))) (fun h => by rw [Bd.returns] at h; cases h)
                refine ⟨_, _, pre28 _ ?_, hrun, hended, _, _, rfl, ?_, ⟨_, rfl⟩, hW, hsame.mono (by decide) (by decide)⟩
                · exact retN X0 hx (t := .boolean) Bd.returns (by simp) (hb hby dA_65) hr
                · show QA Z p1 h0 n0 _ s₁.heap _
                  rw [e0]
                  exact ⟨congrArg (fun z => some (Value.int z)) (own_b0 (P := own_P p1) (by simp [own_P, c3_2, c17_4, c30_6, c36_18, c42_20, c48_23, c57_26])), N0, rfl⟩
        · have pre29 : ∀ t_, Steps p.tables e below (s₁.setTop (mkF m 65 #[.val (.int p1)] [(.int (1 : Int32))])) t_ → Steps p.tables e below (s₁.setTop (entryFrame m #[(.int p1)] 1)) t_ := fun t_ k_ => pre17 t_ (by
              refine XS.icmpYes X0.here hx rfl (pc0 := 36) (pc' := 60) rfl (hb hby dA_36) rfl (flt c36_18).2.2.2 (by decide) (by decide) ?_
              show Steps p.tables e below (s₁.setTop (mkF m 60 #[.val (.int p1)] [])) _
              refine XS.iconst X0.here hx rfl (hb hby dA_60) ?_
              show Steps p.tables e below (s₁.setTop (mkF m 61 #[.val (.int p1)] [(.int (1 : Int32))])) _
              refine XS.goto X0.here hx rfl (pc0 := 61) (pc' := 65) rfl (hb hby dA_61) (by decide) (by decide) ?_
              show Steps p.tables e below (s₁.setTop (mkF m 65 #[.val (.int p1)] [(.int (1 : Int32))])) _
              exact k_)
          obtain ⟨fs, hr, hrun, hended, hW, hsame⟩ := X0.leave (v := some (.int (1 : Int32))) (fun h => by rw [Bd.returns] at h; cases h)
          refine ⟨_, _, pre29 _ ?_, hrun, hended, _, _, rfl, ?_, ⟨_, rfl⟩, hW, hsame.mono (by decide) (by decide)⟩
          · exact retN X0 hx (t := .boolean) Bd.returns (by simp) (hb hby dA_65) hr
          · show QA Z p1 h0 n0 _ s₁.heap _
            rw [e0]
            exact ⟨congrArg (fun z => some (Value.int z)) (own_b1 (P := own_P p1) (by simp [own_P, c3_2, c17_4, c30_6, c36_18])), N0, rfl⟩
    · have pre30 : ∀ t_, Steps p.tables e below (s₁.setTop (mkF m 24 #[.val (.int p1)] [(.int (159 : Int32)), (.int p1)])) t_ → Steps p.tables e below (s₁.setTop (entryFrame m #[(.int p1)] 1)) t_ := fun t_ k_ => pre3 t_ (by
          refine XS.icmpNo X0.here hx rfl (hb hby dA_17) rfl (flt c17_4).1 ?_
          show Steps p.tables e below (s₁.setTop (mkF m 20 #[.val (.int p1)] [])) _
          refine XS.iloadN X0.here hx rfl (hb hby dA_20) rfl ?_
          show Steps p.tables e below (s₁.setTop (mkF m 21 #[.val (.int p1)] [(.int p1)])) _
          refine XS.sipush X0.here hx rfl (hb hby dA_21) ?_
          show Steps p.tables e below (s₁.setTop (mkF m 24 #[.val (.int p1)] [(.int (159 : Int32)), (.int p1)])) _
          exact k_)
      by_cases c24_31 : (159 : Int32) < p1
      · have pre32 : ∀ t_, Steps p.tables e below (s₁.setTop (mkF m 30 #[.val (.int p1)] [(.int (64976 : Int32)), (.int p1)])) t_ → Steps p.tables e below (s₁.setTop (entryFrame m #[(.int p1)] 1)) t_ := fun t_ k_ => pre30 t_ (by
            refine XS.icmpNo X0.here hx rfl (hb hby dA_24) rfl (tlt c24_31).2.2.2 ?_
            show Steps p.tables e below (s₁.setTop (mkF m 27 #[.val (.int p1)] [])) _
            refine XS.iloadN X0.here hx rfl (hb hby dA_27) rfl ?_
            show Steps p.tables e below (s₁.setTop (mkF m 28 #[.val (.int p1)] [(.int p1)])) _
            refine X0.ldcInt hx hown (mvT hZ (hw _ (List.mem_of_getElem? (i := 4) rfl))) (g := (mkF m 28 #[.val (.int p1)] [(.int p1)])) rfl (hb hby dA_28) _ ?_
            show Steps p.tables e below (s₁.setTop (mkF m 30 #[.val (.int p1)] [(.int (64976 : Int32)), (.int p1)])) _
            exact k_)
        by_cases c30_33 : p1 < (64976 : Int32)
        · have pre34 : ∀ t_, Steps p.tables e below (s₁.setTop (mkF m 42 #[.val (.int p1)] [(.int (131070 : Int32)), (.int p1)])) t_ → Steps p.tables e below (s₁.setTop (entryFrame m #[(.int p1)] 1)) t_ := fun t_ k_ => pre32 t_ (by
              refine XS.icmpYes X0.here hx rfl (pc0 := 30) (pc' := 39) rfl (hb hby dA_30) rfl (tlt c30_33).1 (by decide) (by decide) ?_
              show Steps p.tables e below (s₁.setTop (mkF m 39 #[.val (.int p1)] [])) _
              refine XS.iloadN X0.here hx rfl (hb hby dA_39) rfl ?_
              show Steps p.tables e below (s₁.setTop (mkF m 40 #[.val (.int p1)] [(.int p1)])) _
              refine X0.ldcInt hx hown (mvT hZ (hw _ (List.mem_of_getElem? (i := 5) rfl))) (g := (mkF m 40 #[.val (.int p1)] [(.int p1)])) rfl (hb hby dA_40) _ ?_
              show Steps p.tables e below (s₁.setTop (mkF m 42 #[.val (.int p1)] [(.int (131070 : Int32)), (.int p1)])) _
              exact k_)
          by_cases c42_35 : p1 < (131070 : Int32)
          · have pre36 : ∀ t_, Steps p.tables e below (s₁.setTop (mkF m 65 #[.val (.int p1)] [(.int (0 : Int32))])) t_ → Steps p.tables e below (s₁.setTop (entryFrame m #[(.int p1)] 1)) t_ := fun t_ k_ => pre34 t_ (by
                refine XS.icmpYes X0.here hx rfl (pc0 := 42) (pc' := 64) rfl (hb hby dA_42) rfl (tlt c42_35).1 (by decide) (by decide) ?_
                show Steps p.tables e below (s₁.setTop (mkF m 64 #[.val (.int p1)] [])) _
                refine XS.iconst X0.here hx rfl (hb hby dA_64) ?_
                show Steps p.tables e below (s₁.setTop (mkF m 65 #[.val (.int p1)] [(.int (0 : Int32))])) _
                exact k_)
            obtain ⟨fs, hr, hrun, hended, hW, hsame⟩ := X0.leave (v := some (.int (0 : Int32))) (fun h => by rw [Bd.returns] at h; cases h)
            refine ⟨_, _, pre36 _ ?_, hrun, hended, _, _, rfl, ?_, ⟨_, rfl⟩, hW, hsame.mono (by decide) (by decide)⟩
            · exact retN X0 hx (t := .boolean) Bd.returns (by simp) (hb hby dA_65) hr
            · show QA Z p1 h0 n0 _ s₁.heap _
              rw [e0]
              exact ⟨congrArg (fun z => some (Value.int z)) (own_b0 (P := own_P p1) (by simp [own_P, c3_2, c17_4, c24_31, c30_33, c42_35])), N0, rfl⟩
          · have pre37 : ∀ t_, Steps p.tables e below (s₁.setTop (mkF m 48 #[.val (.int p1)] [(.int (1114111 : Int32)), (.int p1)])) t_ → Steps p.tables e below (s₁.setTop (entryFrame m #[(.int p1)] 1)) t_ := fun t_ k_ => pre34 t_ (by
                refine XS.icmpNo X0.here hx rfl (hb hby dA_42) rfl (flt c42_35).1 ?_
                show Steps p.tables e below (s₁.setTop (mkF m 45 #[.val (.int p1)] [])) _
                refine XS.iloadN X0.here hx rfl (hb hby dA_45) rfl ?_
                show Steps p.tables e below (s₁.setTop (mkF m 46 #[.val (.int p1)] [(.int p1)])) _
                refine X0.ldcInt hx hown (mvT hZ (hw _ (List.mem_of_getElem? (i := 21) rfl))) (g := (mkF m 46 #[.val (.int p1)] [(.int p1)])) rfl (hb hby dA_46) _ ?_
                show Steps p.tables e below (s₁.setTop (mkF m 48 #[.val (.int p1)] [(.int (1114111 : Int32)), (.int p1)])) _
                exact k_)
            by_cases c48_38 : (1114111 : Int32) < p1
            · have pre39 : ∀ t_, Steps p.tables e below (s₁.setTop (mkF m 65 #[.val (.int p1)] [(.int (0 : Int32))])) t_ → Steps p.tables e below (s₁.setTop (entryFrame m #[(.int p1)] 1)) t_ := fun t_ k_ => pre37 t_ (by
                  refine XS.icmpYes X0.here hx rfl (pc0 := 48) (pc' := 64) rfl (hb hby dA_48) rfl (tlt c48_38).2.2.1 (by decide) (by decide) ?_
                  show Steps p.tables e below (s₁.setTop (mkF m 64 #[.val (.int p1)] [])) _
                  refine XS.iconst X0.here hx rfl (hb hby dA_64) ?_
                  show Steps p.tables e below (s₁.setTop (mkF m 65 #[.val (.int p1)] [(.int (0 : Int32))])) _
                  exact k_)
              obtain ⟨fs, hr, hrun, hended, hW, hsame⟩ := X0.leave (v := some (.int (0 : Int32))) (fun h => by rw [Bd.returns] at h; cases h)
              refine ⟨_, _, pre39 _ ?_, hrun, hended, _, _, rfl, ?_, ⟨_, rfl⟩, hW, hsame.mono (by decide) (by decide)⟩
              · exact retN X0 hx (t := .boolean) Bd.returns (by simp) (hb hby dA_65) hr
              · show QA Z p1 h0 n0 _ s₁.heap _
                rw [e0]
                exact ⟨congrArg (fun z => some (Value.int z)) (own_b0 (P := own_P p1) (by simp [own_P, c3_2, c17_4, c24_31, c30_33, c42_35, c48_38])), N0, rfl⟩
            · have pre40 : ∀ t_, Steps p.tables e below (s₁.setTop (mkF m 57 #[.val (.int p1)] [(.int (65534 : Int32)), (.int (p1 &&& (65534 : Int32)))])) t_ → Steps p.tables e below (s₁.setTop (entryFrame m #[(.int p1)] 1)) t_ := fun t_ k_ => pre37 t_ (by
                  refine XS.icmpNo X0.here hx rfl (hb hby dA_48) rfl (flt c48_38).2.2.1 ?_
                  show Steps p.tables e below (s₁.setTop (mkF m 51 #[.val (.int p1)] [])) _
                  refine XS.iloadN X0.here hx rfl (hb hby dA_51) rfl ?_
                  show Steps p.tables e below (s₁.setTop (mkF m 52 #[.val (.int p1)] [(.int p1)])) _
                  refine X0.ldcInt hx hown (mvT hZ (hw _ (List.mem_of_getElem? (i := 23) rfl))) (g := (mkF m 52 #[.val (.int p1)] [(.int p1)])) rfl (hb hby dA_52) _ ?_
                  show Steps p.tables e below (s₁.setTop (mkF m 54 #[.val (.int p1)] [(.int (65534 : Int32)), (.int p1)])) _
                  refine XS.iand X0.here hx rfl (hb hby dA_54) rfl ?_
                  show Steps p.tables e below (s₁.setTop (mkF m 55 #[.val (.int p1)] [(.int (p1 &&& (65534 : Int32)))])) _
                  refine X0.ldcInt hx hown (mvT hZ (hw _ (List.mem_of_getElem? (i := 23) rfl))) (g := (mkF m 55 #[.val (.int p1)] [(.int (p1 &&& (65534 : Int32)))])) rfl (hb hby dA_55) _ ?_
                  show Steps p.tables e below (s₁.setTop (mkF m 57 #[.val (.int p1)] [(.int (65534 : Int32)), (.int (p1 &&& (65534 : Int32)))])) _
                  exact k_)
              by_cases c57_41 : (p1 &&& (65534 : Int32)) = (65534 : Int32)
              · have pre42 : ∀ t_, Steps p.tables e below (s₁.setTop (mkF m 65 #[.val (.int p1)] [(.int (1 : Int32))])) t_ → Steps p.tables e below (s₁.setTop (entryFrame m #[(.int p1)] 1)) t_ := fun t_ k_ => pre40 t_ (by
                    refine XS.icmpNo X0.here hx rfl (hb hby dA_57) rfl (teq c57_41).2 ?_
                    show Steps p.tables e below (s₁.setTop (mkF m 60 #[.val (.int p1)] [])) _
                    refine XS.iconst X0.here hx rfl (hb hby dA_60) ?_
                    show Steps p.tables e below (s₁.setTop (mkF m 61 #[.val (.int p1)] [(.int (1 : Int32))])) _
                    refine XS.goto X0.here hx rfl (pc0 := 61) (pc' := 65) rfl (hb hby dA_61) (by decide) (by decide) ?_
                    show Steps p.tables e below (s₁.setTop (mkF m 65 #[.val (.int p1)] [(.int (1 : Int32))])) _
                    exact k_)
                obtain ⟨fs, hr, hrun, hended, hW, hsame⟩ := X0.leave (v := some (.int (1 : Int32))) (fun h => by rw [Bd.returns] at h; cases h)
                refine ⟨_, _, pre42 _ ?_, hrun, hended, _, _, rfl, ?_, ⟨_, rfl⟩, hW, hsame.mono (by decide) (by decide)⟩
                · exact retN X0 hx (t := .boolean) Bd.returns (by simp) (hb hby dA_65) hr
                · show QA Z p1 h0 n0 _ s₁.heap _
                  rw [e0]
                  exact ⟨congrArg (fun z => some (Value.int z)) (own_b1 (P := own_P p1) (by simp [own_P, c3_2, c17_4, c24_31, c30_33, c42_35, c48_38, c57_41])), N0, rfl⟩
              · have pre43 : ∀ t_, Steps p.tables e below (s₁.setTop (mkF m 65 #[.val (.int p1)] [(.int (0 : Int32))])) t_ → Steps p.tables e below (s₁.setTop (entryFrame m #[(.int p1)] 1)) t_ := fun t_ k_ => pre40 t_ (by
                    refine XS.icmpYes X0.here hx rfl (pc0 := 57) (pc' := 64) rfl (hb hby dA_57) rfl (feq c57_41).2 (by decide) (by decide) ?_
                    show Steps p.tables e below (s₁.setTop (mkF m 64 #[.val (.int p1)] [])) _
                    refine XS.iconst X0.here hx rfl (hb hby dA_64) ?_
                    show Steps p.tables e below (s₁.setTop (mkF m 65 #[.val (.int p1)] [(.int (0 : Int32))])) _
                    exact k_)
                obtain ⟨fs, hr, hrun, hended, hW, hsame⟩ := X0.leave (v := some (.int (0 : Int32))) (fun h => by rw [Bd.returns] at h; cases h)
                refine ⟨_, _, pre43 _ ?_, hrun, hended, _, _, rfl, ?_, ⟨_, rfl⟩, hW, hsame.mono (by decide) (by decide)⟩
                · exact retN X0 hx (t := .boolean) Bd.returns (by simp) (hb hby dA_65) hr
                · show QA Z p1 h0 n0 _ s₁.heap _
                  rw [e0]
                  exact ⟨congrArg (fun z => some (Value.int z)) (own_b0 (P := own_P p1) (by simp [own_P, c3_2, c17_4, c24_31, c30_33, c42_35, c48_38, c57_41])), N0, rfl⟩
        · have pre44 : ∀ t_, Steps p.tables e below (s₁.setTop (mkF m 36 #[.val (.int p1)] [(.int (65007 : Int32)), (.int p1)])) t_ → Steps p.tables e below (s₁.setTop (entryFrame m #[(.int p1)] 1)) t_ := fun t_ k_ => pre32 t_ (by
              refine XS.icmpNo X0.here hx rfl (hb hby dA_30) rfl (flt c30_33).1 ?_
              show Steps p.tables e below (s₁.setTop (mkF m 33 #[.val (.int p1)] [])) _
              refine XS.iloadN X0.here hx rfl (hb hby dA_33) rfl ?_
              show Steps p.tables e below (s₁.setTop (mkF m 34 #[.val (.int p1)] [(.int p1)])) _
              refine X0.ldcInt hx hown (mvT hZ (hw _ (List.mem_of_getElem? (i := 19) rfl))) (g := (mkF m 34 #[.val (.int p1)] [(.int p1)])) rfl (hb hby dA_34) _ ?_
              show Steps p.tables e below (s₁.setTop (mkF m 36 #[.val (.int p1)] [(.int (65007 : Int32)), (.int p1)])) _
              exact k_)
          by_cases c36_45 : (65007 : Int32) < p1
          · have pre46 : ∀ t_, Steps p.tables e below (s₁.setTop (mkF m 42 #[.val (.int p1)] [(.int (131070 : Int32)), (.int p1)])) t_ → Steps p.tables e below (s₁.setTop (entryFrame m #[(.int p1)] 1)) t_ := fun t_ k_ => pre44 t_ (by
                refine XS.icmpNo X0.here hx rfl (hb hby dA_36) rfl (tlt c36_45).2.2.2 ?_
                show Steps p.tables e below (s₁.setTop (mkF m 39 #[.val (.int p1)] [])) _
                refine XS.iloadN X0.here hx rfl (hb hby dA_39) rfl ?_
                show Steps p.tables e below (s₁.setTop (mkF m 40 #[.val (.int p1)] [(.int p1)])) _
                refine X0.ldcInt hx hown (mvT hZ (hw _ (List.mem_of_getElem? (i := 5) rfl))) (g := (mkF m 40 #[.val (.int p1)] [(.int p1)])) rfl (hb hby dA_40) _ ?_
                show Steps p.tables e below (s₁.setTop (mkF m 42 #[.val (.int p1)] [(.int (131070 : Int32)), (.int p1)])) _
                exact k_)
            by_cases c42_47 : p1 < (131070 : Int32)
            · have pre48 : ∀ t_, Steps p.tables e below (s₁.setTop (mkF m 65 #[.val (.int p1)] [(.int (0 : Int32))])) t_ → Steps p.tables e below (s₁.setTop (entryFrame m #[(.int p1)] 1)) t_ := fun t_ k_ => pre46 t_ (by
                  refine XS.icmpYes X0.here hx rfl (pc0 := 42) (pc' := 64) rfl (hb hby dA_42) rfl (tlt c42_47).1 (by decide) (by decide) ?_
                  show Steps p.tables e below (s₁.setTop (mkF m 64 #[.val (.int p1)] [])) _
                  refine XS.iconst X0.here hx rfl (hb hby dA_64) ?_
                  show Steps p.tables e below (s₁.setTop (mkF m 65 #[.val (.int p1)] [(.int (0 : Int32))])) _
                  exact k_)
              obtain ⟨fs, hr, hrun, hended, hW, hsame⟩ := X0.leave (v := some (.int (0 : Int32))) (fun h => by rw [Bd.returns] at h; cases h)
              refine ⟨_, _, pre48 _ ?_, hrun, hended, _, _, rfl, ?_, ⟨_, rfl⟩, hW, hsame.mono (by decide) (by decide)⟩
              · exact retN X0 hx (t := .boolean) Bd.returns (by simp) (hb hby dA_65) hr
              · show QA Z p1 h0 n0 _ s₁.heap _
                rw [e0]
                exact ⟨congrArg (fun z => some (Value.int z)) (own_b0 (P := own_P p1) (by simp [own_P, c3_2, c17_4, c24_31, c30_33, c36_45, c42_47])), N0, rfl⟩
            · have pre49 : ∀ t_, Steps p.tables e below (s₁.setTop (mkF m 48 #[.val (.int p1)] [(.int (1114111 : Int32)), (.int p1)])) t_ → Steps p.tables e below (s₁.setTop (entryFrame m #[(.int p1)] 1)) t_ := fun t_ k_ => pre46 t_ (by
                  refine XS.icmpNo X0.here hx rfl (hb hby dA_42) rfl (flt c42_47).1 ?_
                  show Steps p.tables e below (s₁.setTop (mkF m 45 #[.val (.int p1)] [])) _
                  refine XS.iloadN X0.here hx rfl (hb hby dA_45) rfl ?_
                  show Steps p.tables e below (s₁.setTop (mkF m 46 #[.val (.int p1)] [(.int p1)])) _
                  refine X0.ldcInt hx hown (mvT hZ (hw _ (List.mem_of_getElem? (i := 21) rfl))) (g := (mkF m 46 #[.val (.int p1)] [(.int p1)])) rfl (hb hby dA_46) _ ?_
                  show Steps p.tables e below (s₁.setTop (mkF m 48 #[.val (.int p1)] [(.int (1114111 : Int32)), (.int p1)])) _
                  exact k_)
              by_cases c48_50 : (1114111 : Int32) < p1
              · have pre51 : ∀ t_, Steps p.tables e below (s₁.setTop (mkF m 65 #[.val (.int p1)] [(.int (0 : Int32))])) t_ → Steps p.tables e below (s₁.setTop (entryFrame m #[(.int p1)] 1)) t_ := fun t_ k_ => pre49 t_ (by
                    refine XS.icmpYes X0.here hx rfl (pc0 := 48) (pc' := 64) rfl (hb hby dA_48) rfl (tlt c48_50).2.2.1 (by decide) (by decide) ?_
                    show Steps p.tables e below (s₁.setTop (mkF m 64 #[.val (.int p1)] [])) _
                    refine XS.iconst X0.here hx rfl (hb hby dA_64) ?_
                    show Steps p.tables e below (s₁.setTop (mkF m 65 #[.val (.int p1)] [(.int (0 : Int32))])) _
                    exact k_)
                obtain ⟨fs, hr, hrun, hended, hW, hsame⟩ := X0.leave (v := some (.int (0 : Int32))) (fun h => by rw [Bd.returns] at h; cases h)
                refine ⟨_, _, pre51 _ ?_, hrun, hended, _, _, rfl, ?_, ⟨_, rfl⟩, hW, hsame.mono (by decide) (by decide)⟩
                · exact retN X0 hx (t := .boolean) Bd.returns (by simp) (hb hby dA_65) hr
                · show QA Z p1 h0 n0 _ s₁.heap _
                  rw [e0]
                  exact ⟨congrArg (fun z => some (Value.int z)) (own_b0 (P := own_P p1) (by simp [own_P, c3_2, c17_4, c24_31, c30_33, c36_45, c42_47, c48_50])), N0, rfl⟩
              · have pre52 : ∀ t_, Steps p.tables e below (s₁.setTop (mkF m 57 #[.val (.int p1)] [(.int (65534 : Int32)), (.int (p1 &&& (65534 : Int32)))])) t_ → Steps p.tables e below (s₁.setTop (entryFrame m #[(.int p1)] 1)) t_ := fun t_ k_ => pre49 t_ (by
                    refine XS.icmpNo X0.here hx rfl (hb hby dA_48) rfl (flt c48_50).2.2.1 ?_
                    show Steps p.tables e below (s₁.setTop (mkF m 51 #[.val (.int p1)] [])) _
                    refine XS.iloadN X0.here hx rfl (hb hby dA_51) rfl ?_
                    show Steps p.tables e below (s₁.setTop (mkF m 52 #[.val (.int p1)] [(.int p1)])) _
                    refine X0.ldcInt hx hown (mvT hZ (hw _ (List.mem_of_getElem? (i := 23) rfl))) (g := (mkF m 52 #[.val (.int p1)] [(.int p1)])) rfl (hb hby dA_52) _ ?_
                    show Steps p.tables e below (s₁.setTop (mkF m 54 #[.val (.int p1)] [(.int (65534 : Int32)), (.int p1)])) _
                    refine XS.iand X0.here hx rfl (hb hby dA_54) rfl ?_
                    show Steps p.tables e below (s₁.setTop (mkF m 55 #[.val (.int p1)] [(.int (p1 &&& (65534 : Int32)))])) _
                    refine X0.ldcInt hx hown (mvT hZ (hw _ (List.mem_of_getElem? (i := 23) rfl))) (g := (mkF m 55 #[.val (.int p1)] [(.int (p1 &&& (65534 : Int32)))])) rfl (hb hby dA_55) _ ?_
                    show Steps p.tables e below (s₁.setTop (mkF m 57 #[.val (.int p1)] [(.int (65534 : Int32)), (.int (p1 &&& (65534 : Int32)))])) _
                    exact k_)
                by_cases c57_53 : (p1 &&& (65534 : Int32)) = (65534 : Int32)
                · have pre54 : ∀ t_, Steps p.tables e below (s₁.setTop (mkF m 65 #[.val (.int p1)] [(.int (1 : Int32))])) t_ → Steps p.tables e below (s₁.setTop (entryFrame m #[(.int p1)] 1)) t_ := fun t_ k_ => pre52 t_ (by
                      refine XS.icmpNo X0.here hx rfl (hb hby dA_57) rfl (teq c57_53).2 ?_
                      show Steps p.tables e below (s₁.setTop (mkF m 60 #[.val (.int p1)] [])) _
                      refine XS.iconst X0.here hx rfl (hb hby dA_60) ?_
                      show Steps p.tables e below (s₁.setTop (mkF m 61 #[.val (.int p1)] [(.int (1 : Int32))])) _
                      refine XS.goto X0.here hx rfl (pc0 := 61) (pc' := 65) rfl (hb hby dA_61) (by decide) (by decide) ?_
                      show Steps p.tables e below (s₁.setTop (mkF m 65 #[.val (.int p1)] [(.int (1 : Int32))])) _
                      exact k_)
                  obtain ⟨fs, hr, hrun, hended, hW, hsame⟩ := X0.leave (v := some (.int (1 : Int32))) (fun h => by rw [Bd.returns] at h; cases h)
                  refine ⟨_, _, pre54 _ ?_, hrun, hended, _, _, rfl, ?_, ⟨_, rfl⟩, hW, hsame.mono (by decide) (by decide)⟩
                  · exact retN X0 hx (t := .boolean) Bd.returns (by simp) (hb hby dA_65) hr
                  · show QA Z p1 h0 n0 _ s₁.heap _
                    rw [e0]
                    exact ⟨congrArg (fun z => some (Value.int z)) (own_b1 (P := own_P p1) (by simp [own_P, c3_2, c17_4, c24_31, c30_33, c36_45, c42_47, c48_50, c57_53])), N0, rfl⟩
                · have pre55 : ∀ t_, Steps p.tables e below (s₁.setTop (mkF m 65 #[.val (.int p1)] [(.int (0 : Int32))])) t_ → Steps p.tables e below (s₁.setTop (entryFrame m #[(.int p1)] 1)) t_ := fun t_ k_ => pre52 t_ (by
                      refine XS.icmpYes X0.here hx rfl (pc0 := 57) (pc' := 64) rfl (hb hby dA_57) rfl (feq c57_53).2 (by decide) (by decide) ?_
                      show Steps p.tables e below (s₁.setTop (mkF m 64 #[.val (.int p1)] [])) _
                      refine XS.iconst X0.here hx rfl (hb hby dA_64) ?_
                      show Steps p.tables e below (s₁.setTop (mkF m 65 #[.val (.int p1)] [(.int (0 : Int32))])) _
                      exact k_)
                  obtain ⟨fs, hr, hrun, hended, hW, hsame⟩ := X0.leave (v := some (.int (0 : Int32))) (fun h => by rw [Bd.returns] at h; cases h)
                  refine ⟨_, _, pre55 _ ?_, hrun, hended, _, _, rfl, ?_, ⟨_, rfl⟩, hW, hsame.mono (by decide) (by decide)⟩
                  · exact retN X0 hx (t := .boolean) Bd.returns (by simp) (hb hby dA_65) hr
                  · show QA Z p1 h0 n0 _ s₁.heap _
                    rw [e0]
                    exact ⟨congrArg (fun z => some (Value.int z)) (own_b0 (P := own_P p1) (by simp [own_P, c3_2, c17_4, c24_31, c30_33, c36_45, c42_47, c48_50, c57_53])), N0, rfl⟩
          · have pre56 : ∀ t_, Steps p.tables e below (s₁.setTop (mkF m 65 #[.val (.int p1)] [(.int (1 : Int32))])) t_ → Steps p.tables e below (s₁.setTop (entryFrame m #[(.int p1)] 1)) t_ := fun t_ k_ => pre44 t_ (by
                refine XS.icmpYes X0.here hx rfl (pc0 := 36) (pc' := 60) rfl (hb hby dA_36) rfl (flt c36_45).2.2.2 (by decide) (by decide) ?_
                show Steps p.tables e below (s₁.setTop (mkF m 60 #[.val (.int p1)] [])) _
                refine XS.iconst X0.here hx rfl (hb hby dA_60) ?_
                show Steps p.tables e below (s₁.setTop (mkF m 61 #[.val (.int p1)] [(.int (1 : Int32))])) _
                refine XS.goto X0.here hx rfl (pc0 := 61) (pc' := 65) rfl (hb hby dA_61) (by decide) (by decide) ?_
                show Steps p.tables e below (s₁.setTop (mkF m 65 #[.val (.int p1)] [(.int (1 : Int32))])) _
                exact k_)
            obtain ⟨fs, hr, hrun, hended, hW, hsame⟩ := X0.leave (v := some (.int (1 : Int32))) (fun h => by rw [Bd.returns] at h; cases h)
            refine ⟨_, _, pre56 _ ?_, hrun, hended, _, _, rfl, ?_, ⟨_, rfl⟩, hW, hsame.mono (by decide) (by decide)⟩
            · exact retN X0 hx (t := .boolean) Bd.returns (by simp) (hb hby dA_65) hr
            · show QA Z p1 h0 n0 _ s₁.heap _
              rw [e0]
              exact ⟨congrArg (fun z => some (Value.int z)) (own_b1 (P := own_P p1) (by simp [own_P, c3_2, c17_4, c24_31, c30_33, c36_45])), N0, rfl⟩
      · have pre57 : ∀ t_, Steps p.tables e below (s₁.setTop (mkF m 65 #[.val (.int p1)] [(.int (1 : Int32))])) t_ → Steps p.tables e below (s₁.setTop (entryFrame m #[(.int p1)] 1)) t_ := fun t_ k_ => pre30 t_ (by
            refine XS.icmpYes X0.here hx rfl (pc0 := 24) (pc' := 60) rfl (hb hby dA_24) rfl (flt c24_31).2.2.2 (by decide) (by decide) ?_
            show Steps p.tables e below (s₁.setTop (mkF m 60 #[.val (.int p1)] [])) _
            refine XS.iconst X0.here hx rfl (hb hby dA_60) ?_
            show Steps p.tables e below (s₁.setTop (mkF m 61 #[.val (.int p1)] [(.int (1 : Int32))])) _
            refine XS.goto X0.here hx rfl (pc0 := 61) (pc' := 65) rfl (hb hby dA_61) (by decide) (by decide) ?_
            show Steps p.tables e below (s₁.setTop (mkF m 65 #[.val (.int p1)] [(.int (1 : Int32))])) _
            exact k_)
        obtain ⟨fs, hr, hrun, hended, hW, hsame⟩ := X0.leave (v := some (.int (1 : Int32))) (fun h => by rw [Bd.returns] at h; cases h)
        refine ⟨_, _, pre57 _ ?_, hrun, hended, _, _, rfl, ?_, ⟨_, rfl⟩, hW, hsame.mono (by decide) (by decide)⟩
        · exact retN X0 hx (t := .boolean) Bd.returns (by simp) (hb hby dA_65) hr
        · show QA Z p1 h0 n0 _ s₁.heap _
          rw [e0]
          exact ⟨congrArg (fun z => some (Value.int z)) (own_b1 (P := own_P p1) (by simp [own_P, c3_2, c17_4, c24_31])), N0, rfl⟩
  · have pre58 : ∀ t_, Steps p.tables e below (s₁.setTop (mkF m 10 #[.val (.int p1)] [(.int (132 : Int32)), (.int p1)])) t_ → Steps p.tables e below (s₁.setTop (entryFrame m #[(.int p1)] 1)) t_ := fun t_ k_ => pre1 t_ (by
        refine XS.icmpNo X0.here hx rfl (hb hby dA_3) rfl (flt c3_2).1 ?_
        show Steps p.tables e below (s₁.setTop (mkF m 6 #[.val (.int p1)] [])) _
        refine XS.iloadN X0.here hx rfl (hb hby dA_6) rfl ?_
        show Steps p.tables e below (s₁.setTop (mkF m 7 #[.val (.int p1)] [(.int p1)])) _
        refine XS.sipush X0.here hx rfl (hb hby dA_7) ?_
        show Steps p.tables e below (s₁.setTop (mkF m 10 #[.val (.int p1)] [(.int (132 : Int32)), (.int p1)])) _
        exact k_)
    by_cases c10_59 : (132 : Int32) < p1
    · have pre60 : ∀ t_, Steps p.tables e below (s₁.setTop (mkF m 17 #[.val (.int p1)] [(.int (134 : Int32)), (.int p1)])) t_ → Steps p.tables e below (s₁.setTop (entryFrame m #[(.int p1)] 1)) t_ := fun t_ k_ => pre58 t_ (by
          refine XS.icmpNo X0.here hx rfl (hb hby dA_10) rfl (tlt c10_59).2.2.2 ?_
          show Steps p.tables e below (s₁.setTop (mkF m 13 #[.val (.int p1)] [])) _
          refine XS.iloadN X0.here hx rfl (hb hby dA_13) rfl ?_
          show Steps p.tables e below (s₁.setTop (mkF m 14 #[.val (.int p1)] [(.int p1)])) _
          refine XS.sipush X0.here hx rfl (hb hby dA_14) ?_
          show Steps p.tables e below (s₁.setTop (mkF m 17 #[.val (.int p1)] [(.int (134 : Int32)), (.int p1)])) _
          exact k_)
      by_cases c17_61 : p1 < (134 : Int32)
      · have pre62 : ∀ t_, Steps p.tables e below (s₁.setTop (mkF m 30 #[.val (.int p1)] [(.int (64976 : Int32)), (.int p1)])) t_ → Steps p.tables e below (s₁.setTop (entryFrame m #[(.int p1)] 1)) t_ := fun t_ k_ => pre60 t_ (by
            refine XS.icmpYes X0.here hx rfl (pc0 := 17) (pc' := 27) rfl (hb hby dA_17) rfl (tlt c17_61).1 (by decide) (by decide) ?_
            show Steps p.tables e below (s₁.setTop (mkF m 27 #[.val (.int p1)] [])) _
            refine XS.iloadN X0.here hx rfl (hb hby dA_27) rfl ?_
            show Steps p.tables e below (s₁.setTop (mkF m 28 #[.val (.int p1)] [(.int p1)])) _
            refine X0.ldcInt hx hown (mvT hZ (hw _ (List.mem_of_getElem? (i := 4) rfl))) (g := (mkF m 28 #[.val (.int p1)] [(.int p1)])) rfl (hb hby dA_28) _ ?_
            show Steps p.tables e below (s₁.setTop (mkF m 30 #[.val (.int p1)] [(.int (64976 : Int32)), (.int p1)])) _
            exact k_)
        by_cases c30_63 : p1 < (64976 : Int32)
        · have pre64 : ∀ t_, Steps p.tables e below (s₁.setTop (mkF m 42 #[.val (.int p1)] [(.int (131070 : Int32)), (.int p1)])) t_ → Steps p.tables e below (s₁.setTop (entryFrame m #[(.int p1)] 1)) t_ := fun t_ k_ => pre62 t_ (by
              refine XS.icmpYes X0.here hx rfl (pc0 := 30) (pc' := 39) rfl (hb hby dA_30) rfl (tlt c30_63).1 (by decide) (by decide) ?_
              show Steps p.tables e below (s₁.setTop (mkF m 39 #[.val (.int p1)] [])) _
              refine XS.iloadN X0.here hx rfl (hb hby dA_39) rfl ?_
              show Steps p.tables e below (s₁.setTop (mkF m 40 #[.val (.int p1)] [(.int p1)])) _
              refine X0.ldcInt hx hown (mvT hZ (hw _ (List.mem_of_getElem? (i := 5) rfl))) (g := (mkF m 40 #[.val (.int p1)] [(.int p1)])) rfl (hb hby dA_40) _ ?_
              show Steps p.tables e below (s₁.setTop (mkF m 42 #[.val (.int p1)] [(.int (131070 : Int32)), (.int p1)])) _
              exact k_)
          by_cases c42_65 : p1 < (131070 : Int32)
          · have pre66 : ∀ t_, Steps p.tables e below (s₁.setTop (mkF m 65 #[.val (.int p1)] [(.int (0 : Int32))])) t_ → Steps p.tables e below (s₁.setTop (entryFrame m #[(.int p1)] 1)) t_ := fun t_ k_ => pre64 t_ (by
                refine XS.icmpYes X0.here hx rfl (pc0 := 42) (pc' := 64) rfl (hb hby dA_42) rfl (tlt c42_65).1 (by decide) (by decide) ?_
                show Steps p.tables e below (s₁.setTop (mkF m 64 #[.val (.int p1)] [])) _
                refine XS.iconst X0.here hx rfl (hb hby dA_64) ?_
                show Steps p.tables e below (s₁.setTop (mkF m 65 #[.val (.int p1)] [(.int (0 : Int32))])) _
                exact k_)
            obtain ⟨fs, hr, hrun, hended, hW, hsame⟩ := X0.leave (v := some (.int (0 : Int32))) (fun h => by rw [Bd.returns] at h; cases h)
            refine ⟨_, _, pre66 _ ?_, hrun, hended, _, _, rfl, ?_, ⟨_, rfl⟩, hW, hsame.mono (by decide) (by decide)⟩
            · exact retN X0 hx (t := .boolean) Bd.returns (by simp) (hb hby dA_65) hr
            · show QA Z p1 h0 n0 _ s₁.heap _
              rw [e0]
              exact ⟨congrArg (fun z => some (Value.int z)) (own_b0 (P := own_P p1) (by simp [own_P, c3_2, c10_59, c17_61, c30_63, c42_65])), N0, rfl⟩
          · have pre67 : ∀ t_, Steps p.tables e below (s₁.setTop (mkF m 48 #[.val (.int p1)] [(.int (1114111 : Int32)), (.int p1)])) t_ → Steps p.tables e below (s₁.setTop (entryFrame m #[(.int p1)] 1)) t_ := fun t_ k_ => pre64 t_ (by
                refine XS.icmpNo X0.here hx rfl (hb hby dA_42) rfl (flt c42_65).1 ?_
                show Steps p.tables e below (s₁.setTop (mkF m 45 #[.val (.int p1)] [])) _
                refine XS.iloadN X0.here hx rfl (hb hby dA_45) rfl ?_
                show Steps p.tables e below (s₁.setTop (mkF m 46 #[.val (.int p1)] [(.int p1)])) _
                refine X0.ldcInt hx hown (mvT hZ (hw _ (List.mem_of_getElem? (i := 21) rfl))) (g := (mkF m 46 #[.val (.int p1)] [(.int p1)])) rfl (hb hby dA_46) _ ?_
                show Steps p.tables e below (s₁.setTop (mkF m 48 #[.val (.int p1)] [(.int (1114111 : Int32)), (.int p1)])) _
                exact k_)
            by_cases c48_68 : (1114111 : Int32) < p1
            · have pre69 : ∀ t_, Steps p.tables e below (s₁.setTop (mkF m 65 #[.val (.int p1)] [(.int (0 : Int32))])) t_ → Steps p.tables e below (s₁.setTop (entryFrame m #[(.int p1)] 1)) t_ := fun t_ k_ => pre67 t_ (by
                  refine XS.icmpYes X0.here hx rfl (pc0 := 48) (pc' := 64) rfl (hb hby dA_48) rfl (tlt c48_68).2.2.1 (by decide) (by decide) ?_
                  show Steps p.tables e below (s₁.setTop (mkF m 64 #[.val (.int p1)] [])) _
                  refine XS.iconst X0.here hx rfl (hb hby dA_64) ?_
                  show Steps p.tables e below (s₁.setTop (mkF m 65 #[.val (.int p1)] [(.int (0 : Int32))])) _
                  exact k_)
              obtain ⟨fs, hr, hrun, hended, hW, hsame⟩ := X0.leave (v := some (.int (0 : Int32))) (fun h => by rw [Bd.returns] at h; cases h)
              refine ⟨_, _, pre69 _ ?_, hrun, hended, _, _, rfl, ?_, ⟨_, rfl⟩, hW, hsame.mono (by decide) (by decide)⟩
              · exact retN X0 hx (t := .boolean) Bd.returns (by simp) (hb hby dA_65) hr
              · show QA Z p1 h0 n0 _ s₁.heap _
                rw [e0]
                exact ⟨congrArg (fun z => some (Value.int z)) (own_b0 (P := own_P p1) (by simp [own_P, c3_2, c10_59, c17_61, c30_63, c42_65, c48_68])), N0, rfl⟩
            · have pre70 : ∀ t_, Steps p.tables e below (s₁.setTop (mkF m 57 #[.val (.int p1)] [(.int (65534 : Int32)), (.int (p1 &&& (65534 : Int32)))])) t_ → Steps p.tables e below (s₁.setTop (entryFrame m #[(.int p1)] 1)) t_ := fun t_ k_ => pre67 t_ (by
                  refine XS.icmpNo X0.here hx rfl (hb hby dA_48) rfl (flt c48_68).2.2.1 ?_
                  show Steps p.tables e below (s₁.setTop (mkF m 51 #[.val (.int p1)] [])) _
                  refine XS.iloadN X0.here hx rfl (hb hby dA_51) rfl ?_
                  show Steps p.tables e below (s₁.setTop (mkF m 52 #[.val (.int p1)] [(.int p1)])) _
                  refine X0.ldcInt hx hown (mvT hZ (hw _ (List.mem_of_getElem? (i := 23) rfl))) (g := (mkF m 52 #[.val (.int p1)] [(.int p1)])) rfl (hb hby dA_52) _ ?_
                  show Steps p.tables e below (s₁.setTop (mkF m 54 #[.val (.int p1)] [(.int (65534 : Int32)), (.int p1)])) _
                  refine XS.iand X0.here hx rfl (hb hby dA_54) rfl ?_
                  show Steps p.tables e below (s₁.setTop (mkF m 55 #[.val (.int p1)] [(.int (p1 &&& (65534 : Int32)))])) _
                  refine X0.ldcInt hx hown (mvT hZ (hw _ (List.mem_of_getElem? (i := 23) rfl))) (g := (mkF m 55 #[.val (.int p1)] [(.int (p1 &&& (65534 : Int32)))])) rfl (hb hby dA_55) _ ?_
                  show Steps p.tables e below (s₁.setTop (mkF m 57 #[.val (.int p1)] [(.int (65534 : Int32)), (.int (p1 &&& (65534 : Int32)))])) _
                  exact k_)
              by_cases c57_71 : (p1 &&& (65534 : Int32)) = (65534 : Int32)
              · have pre72 : ∀ t_, Steps p.tables e below (s₁.setTop (mkF m 65 #[.val (.int p1)] [(.int (1 : Int32))])) t_ → Steps p.tables e below (s₁.setTop (entryFrame m #[(.int p1)] 1)) t_ := fun t_ k_ => pre70 t_ (by
                    refine XS.icmpNo X0.here hx rfl (hb hby dA_57) rfl (teq c57_71).2 ?_
                    show Steps p.tables e below (s₁.setTop (mkF m 60 #[.val (.int p1)] [])) _
                    refine XS.iconst X0.here hx rfl (hb hby dA_60) ?_
                    show Steps p.tables e below (s₁.setTop (mkF m 61 #[.val (.int p1)] [(.int (1 : Int32))])) _
                    refine XS.goto X0.here hx rfl (pc0 := 61) (pc' := 65) rfl (hb hby dA_61) (by decide) (by decide) ?_
                    show Steps p.tables e below (s₁.setTop (mkF m 65 #[.val (.int p1)] [(.int (1 : Int32))])) _
                    exact k_)
                obtain ⟨fs, hr, hrun, hended, hW, hsame⟩ := X0.leave (v := some (.int (1 : Int32))) (fun h => by rw [Bd.returns] at h; cases h)
                refine ⟨_, _, pre72 _ ?_, hrun, hended, _, _, rfl, ?_, ⟨_, rfl⟩, hW, hsame.mono (by decide) (by decide)⟩
                · exact retN X0 hx (t := .boolean) Bd.returns (by simp) (hb hby dA_65) hr
                · show QA Z p1 h0 n0 _ s₁.heap _
                  rw [e0]
                  exact ⟨congrArg (fun z => some (Value.int z)) (own_b1 (P := own_P p1) (by simp [own_P, c3_2, c10_59, c17_61, c30_63, c42_65, c48_68, c57_71])), N0, rfl⟩
              · have pre73 : ∀ t_, Steps p.tables e below (s₁.setTop (mkF m 65 #[.val (.int p1)] [(.int (0 : Int32))])) t_ → Steps p.tables e below (s₁.setTop (entryFrame m #[(.int p1)] 1)) t_ := fun t_ k_ => pre70 t_ (by
                    refine XS.icmpYes X0.here hx rfl (pc0 := 57) (pc' := 64) rfl (hb hby dA_57) rfl (feq c57_71).2 (by decide) (by decide) ?_
                    show Steps p.tables e below (s₁.setTop (mkF m 64 #[.val (.int p1)] [])) _
                    refine XS.iconst X0.here hx rfl (hb hby dA_64) ?_
                    show Steps p.tables e below (s₁.setTop (mkF m 65 #[.val (.int p1)] [(.int (0 : Int32))])) _
                    exact k_)
                obtain ⟨fs, hr, hrun, hended, hW, hsame⟩ := X0.leave (v := some (.int (0 : Int32))) (fun h => by rw [Bd.returns] at h; cases h)
                refine ⟨_, _, pre73 _ ?_, hrun, hended, _, _, rfl, ?_, ⟨_, rfl⟩, hW, hsame.mono (by decide) (by decide)⟩
                · exact retN X0 hx (t := .boolean) Bd.returns (by simp) (hb hby dA_65) hr
                · show QA Z p1 h0 n0 _ s₁.heap _
                  rw [e0]
                  exact ⟨congrArg (fun z => some (Value.int z)) (own_b0 (P := own_P p1) (by simp [own_P, c3_2, c10_59, c17_61, c30_63, c42_65, c48_68, c57_71])), N0, rfl⟩
        · have pre74 : ∀ t_, Steps p.tables e below (s₁.setTop (mkF m 36 #[.val (.int p1)] [(.int (65007 : Int32)), (.int p1)])) t_ → Steps p.tables e below (s₁.setTop (entryFrame m #[(.int p1)] 1)) t_ := fun t_ k_ => pre62 t_ (by
              refine XS.icmpNo X0.here hx rfl (hb hby dA_30) rfl (flt c30_63).1 ?_
              show Steps p.tables e below (s₁.setTop (mkF m 33 #[.val (.int p1)] [])) _
              refine XS.iloadN X0.here hx rfl (hb hby dA_33) rfl ?_
              show Steps p.tables e below (s₁.setTop (mkF m 34 #[.val (.int p1)] [(.int p1)])) _
              refine X0.ldcInt hx hown (mvT hZ (hw _ (List.mem_of_getElem? (i := 19) rfl))) (g := (mkF m 34 #[.val (.int p1)] [(.int p1)])) rfl (hb hby dA_34) _ ?_
              show Steps p.tables e below (s₁.setTop (mkF m 36 #[.val (.int p1)] [(.int (65007 : Int32)), (.int p1)])) _
              exact k_)
          by_cases c36_75 : (65007 : Int32) < p1
          · have pre76 : ∀ t_, Steps p.tables e below (s₁.setTop (mkF m 42 #[.val (.int p1)] [(.int (131070 : Int32)), (.int p1)])) t_ → Steps p.tables e below (s₁.setTop (entryFrame m #[(.int p1)] 1)) t_ := fun t_ k_ => pre74 t_ (by
                refine XS.icmpNo X0.here hx rfl (hb hby dA_36) rfl (tlt c36_75).2.2.2 ?_
                show Steps p.tables e below (s₁.setTop (mkF m 39 #[.val (.int p1)] [])) _
                refine XS.iloadN X0.here hx rfl (hb hby dA_39) rfl ?_
                show Steps p.tables e below (s₁.setTop (mkF m 40 #[.val (.int p1)] [(.int p1)])) _
                refine X0.ldcInt hx hown (mvT hZ (hw _ (List.mem_of_getElem? (i := 5) rfl))) (g := (mkF m 40 #[.val (.int p1)] [(.int p1)])) rfl (hb hby dA_40) _ ?_
                show Steps p.tables e below (s₁.setTop (mkF m 42 #[.val (.int p1)] [(.int (131070 : Int32)), (.int p1)])) _
                exact k_)
            by_cases c42_77 : p1 < (131070 : Int32)
            · have pre78 : ∀ t_, Steps p.tables e below (s₁.setTop (mkF m 65 #[.val (.int p1)] [(.int (0 : Int32))])) t_ → Steps p.tables e below (s₁.setTop (entryFrame m #[(.int p1)] 1)) t_ := fun t_ k_ => pre76 t_ (by
                  refine XS.icmpYes X0.here hx rfl (pc0 := 42) (pc' := 64) rfl (hb hby dA_42) rfl (tlt c42_77).1 (by decide) (by decide) ?_
                  show Steps p.tables e below (s₁.setTop (mkF m 64 #[.val (.int p1)] [])) _
                  refine XS.iconst X0.here hx rfl (hb hby dA_64) ?_
                  show Steps p.tables e below (s₁.setTop (mkF m 65 #[.val (.int p1)] [(.int (0 : Int32))])) _
                  exact k_)
              obtain ⟨fs, hr, hrun, hended, hW, hsame⟩ := X0.leave (v := some (.int (0 : Int32))) (fun h => by rw [Bd.returns] at h; cases h)
              refine ⟨_, _, pre78 _ ?_, hrun, hended, _, _, rfl, ?_, ⟨_, rfl⟩, hW, hsame.mono (by decide) (by decide)⟩
              · exact retN X0 hx (t := .boolean) Bd.returns (by simp) (hb hby dA_65) hr
              · show QA Z p1 h0 n0 _ s₁.heap _
                rw [e0]
                exact ⟨congrArg (fun z => some (Value.int z)) (own_b0 (P := own_P p1) (by simp [own_P, c3_2, c10_59, c17_61, c30_63, c36_75, c42_77])), N0, rfl⟩
            · have pre79 : ∀ t_, Steps p.tables e below (s₁.setTop (mkF m 48 #[.val (.int p1)] [(.int (1114111 : Int32)), (.int p1)])) t_ → Steps p.tables e below (s₁.setTop (entryFrame m #[(.int p1)] 1)) t_ := fun t_ k_ => pre76 t_ (by
                  refine XS.icmpNo X0.here hx rfl (hb hby dA_42) rfl (flt c42_77).1 ?_
                  show Steps p.tables e below (s₁.setTop (mkF m 45 #[.val (.int p1)] [])) _
                  refine XS.iloadN X0.here hx rfl (hb hby dA_45) rfl ?_
                  show Steps p.tables e below (s₁.setTop (mkF m 46 #[.val (.int p1)] [(.int p1)])) _
                  refine X0.ldcInt hx hown (mvT hZ (hw _ (List.mem_of_getElem? (i := 21) rfl))) (g := (mkF m 46 #[.val (.int p1)] [(.int p1)])) rfl (hb hby dA_46) _ ?_
                  show Steps p.tables e below (s₁.setTop (mkF m 48 #[.val (.int p1)] [(.int (1114111 : Int32)), (.int p1)])) _
                  exact k_)
              by_cases c48_80 : (1114111 : Int32) < p1
              · have pre81 : ∀ t_, Steps p.tables e below (s₁.setTop (mkF m 65 #[.val (.int p1)] [(.int (0 : Int32))])) t_ → Steps p.tables e below (s₁.setTop (entryFrame m #[(.int p1)] 1)) t_ := fun t_ k_ => pre79 t_ (by
                    refine XS.icmpYes X0.here hx rfl (pc0 := 48) (pc' := 64) rfl (hb hby dA_48) rfl (tlt c48_80).2.2.1 (by decide) (by decide) ?_
                    show Steps p.tables e below (s₁.setTop (mkF m 64 #[.val (.int p1)] [])) _
                    refine XS.iconst X0.here hx rfl (hb hby dA_64) ?_
                    show Steps p.tables e below (s₁.setTop (mkF m 65 #[.val (.int p1)] [(.int (0 : Int32))])) _
                    exact k_)
                obtain ⟨fs, hr, hrun, hended, hW, hsame⟩ := X0.leave (v := some (.int (0 : Int32))) (fun h => by rw [Bd.returns] at h; cases h)
                refine ⟨_, _, pre81 _ ?_, hrun, hended, _, _, rfl, ?_, ⟨_, rfl⟩, hW, hsame.mono (by decide) (by decide)⟩
                · exact retN X0 hx (t := .boolean) Bd.returns (by simp) (hb hby dA_65) hr
                · show QA Z p1 h0 n0 _ s₁.heap _
                  rw [e0]
                  exact ⟨congrArg (fun z => some (Value.int z)) (own_b0 (P := own_P p1) (by simp [own_P, c3_2, c10_59, c17_61, c30_63, c36_75, c42_77, c48_80])), N0, rfl⟩
              · have pre82 : ∀ t_, Steps p.tables e below (s₁.setTop (mkF m 57 #[.val (.int p1)] [(.int (65534 : Int32)), (.int (p1 &&& (65534 : Int32)))])) t_ → Steps p.tables e below (s₁.setTop (entryFrame m #[(.int p1)] 1)) t_ := fun t_ k_ => pre79 t_ (by
                    refine XS.icmpNo X0.here hx rfl (hb hby dA_48) rfl (flt c48_80).2.2.1 ?_
                    show Steps p.tables e below (s₁.setTop (mkF m 51 #[.val (.int p1)] [])) _
                    refine XS.iloadN X0.here hx rfl (hb hby dA_51) rfl ?_
                    show Steps p.tables e below (s₁.setTop (mkF m 52 #[.val (.int p1)] [(.int p1)])) _
                    refine X0.ldcInt hx hown (mvT hZ (hw _ (List.mem_of_getElem? (i := 23) rfl))) (g := (mkF m 52 #[.val (.int p1)] [(.int p1)])) rfl (hb hby dA_52) _ ?_
                    show Steps p.tables e below (s₁.setTop (mkF m 54 #[.val (.int p1)] [(.int (65534 : Int32)), (.int p1)])) _
                    refine XS.iand X0.here hx rfl (hb hby dA_54) rfl ?_
                    show Steps p.tables e below (s₁.setTop (mkF m 55 #[.val (.int p1)] [(.int (p1 &&& (65534 : Int32)))])) _
                    refine X0.ldcInt hx hown (mvT hZ (hw _ (List.mem_of_getElem? (i := 23) rfl))) (g := (mkF m 55 #[.val (.int p1)] [(.int (p1 &&& (65534 : Int32)))])) rfl (hb hby dA_55) _ ?_
                    show Steps p.tables e below (s₁.setTop (mkF m 57 #[.val (.int p1)] [(.int (65534 : Int32)), (.int (p1 &&& (65534 : Int32)))])) _
                    exact k_)
                by_cases c57_83 : (p1 &&& (65534 : Int32)) = (65534 : Int32)
                · have pre84 : ∀ t_, Steps p.tables e below (s₁.setTop (mkF m 65 #[.val (.int p1)] [(.int (1 : Int32))])) t_ → Steps p.tables e below (s₁.setTop (entryFrame m #[(.int p1)] 1)) t_ := fun t_ k_ => pre82 t_ (by
                      refine XS.icmpNo X0.here hx rfl (hb hby dA_57) rfl (teq c57_83).2 ?_
                      show Steps p.tables e below (s₁.setTop (mkF m 60 #[.val (.int p1)] [])) _
                      refine XS.iconst X0.here hx rfl (hb hby dA_60) ?_
                      show Steps p.tables e below (s₁.setTop (mkF m 61 #[.val (.int p1)] [(.int (1 : Int32))])) _
                      refine XS.goto X0.here hx rfl (pc0 := 61) (pc' := 65) rfl (hb hby dA_61) (by decide) (by decide) ?_
                      show Steps p.tables e below (s₁.setTop (mkF m 65 #[.val (.int p1)] [(.int (1 : Int32))])) _
                      exact k_)
                  obtain ⟨fs, hr, hrun, hended, hW, hsame⟩ := X0.leave (v := some (.int (1 : Int32))) (fun h => by rw [Bd.returns] at h; cases h)
                  refine ⟨_, _, pre84 _ ?_, hrun, hended, _, _, rfl, ?_, ⟨_, rfl⟩, hW, hsame.mono (by decide) (by decide)⟩
                  · exact retN X0 hx (t := .boolean) Bd.returns (by simp) (hb hby dA_65) hr
                  · show QA Z p1 h0 n0 _ s₁.heap _
                    rw [e0]
                    exact ⟨congrArg (fun z => some (Value.int z)) (own_b1 (P := own_P p1) (by simp [own_P, c3_2, c10_59, c17_61, c30_63, c36_75, c42_77, c48_80, c57_83])), N0, rfl⟩
                · have pre85 : ∀ t_, Steps p.tables e below (s₁.setTop (mkF m 65 #[.val (.int p1)] [(.int (0 : Int32))])) t_ → Steps p.tables e below (s₁.setTop (entryFrame m #[(.int p1)] 1)) t_ := fun t_ k_ => pre82 t_ (by
                      refine XS.icmpYes X0.here hx rfl (pc0 := 57) (pc' := 64) rfl (hb hby dA_57) rfl (feq c57_83).2 (by decide) (by decide) ?_
                      show Steps p.tables e below (s₁.setTop (mkF m 64 #[.val (.int p1)] [])) _
                      refine XS.iconst X0.here hx rfl (hb hby dA_64) ?_
                      show Steps p.tables e below (s₁.setTop (mkF m 65 #[.val (.int p1)] [(.int (0 : Int32))])) _
                      exact k_)
                  obtain ⟨fs, hr, hrun, hended, hW, hsame⟩ := X0.leave (v := some (.int (0 : Int32))) (fun h => by rw [Bd.returns] at h; cases h)
                  refine ⟨_, _, pre85 _ ?_, hrun, hended, _, _, rfl, ?_, ⟨_, rfl⟩, hW, hsame.mono (by decide) (by decide)⟩
                  · exact retN X0 hx (t := .boolean) Bd.returns (by simp) (hb hby dA_65) hr
                  · show QA Z p1 h0 n0 _ s₁.heap _
                    rw [e0]
                    exact ⟨congrArg (fun z => some (Value.int z)) (own_b0 (P := own_P p1) (by simp [own_P, c3_2, c10_59, c17_61, c30_63, c36_75, c42_77, c48_80, c57_83])), N0, rfl⟩
          · have pre86 : ∀ t_, Steps p.tables e below (s₁.setTop (mkF m 65 #[.val (.int p1)] [(.int (1 : Int32))])) t_ → Steps p.tables e below (s₁.setTop (entryFrame m #[(.int p1)] 1)) t_ := fun t_ k_ => pre74 t_ (by
                refine XS.icmpYes X0.here hx rfl (pc0 := 36) (pc' := 60) rfl (hb hby dA_36) rfl (flt c36_75).2.2.2 (by decide) (by decide) ?_
                show Steps p.tables e below (s₁.setTop (mkF m 60 #[.val (.int p1)] [])) _
                refine XS.iconst X0.here hx rfl (hb hby dA_60) ?_
                show Steps p.tables e below (s₁.setTop (mkF m 61 #[.val (.int p1)] [(.int (1 : Int32))])) _
                refine XS.goto X0.here hx rfl (pc0 := 61) (pc' := 65) rfl (hb hby dA_61) (by decide) (by decide) ?_
                show Steps p.tables e below (s₁.setTop (mkF m 65 #[.val (.int p1)] [(.int (1 : Int32))])) _
                exact k_)
            obtain ⟨fs, hr, hrun, hended, hW, hsame⟩ := X0.leave (v := some (.int (1 : Int32))) (fun h => by rw [Bd.returns] at h; cases h)
            refine ⟨_, _, pre86 _ ?_, hrun, hended, _, _, rfl, ?_, ⟨_, rfl⟩, hW, hsame.mono (by decide) (by decide)⟩
            · exact retN X0 hx (t := .boolean) Bd.returns (by simp) (hb hby dA_65) hr
            · show QA Z p1 h0 n0 _ s₁.heap _
              rw [e0]
              exact ⟨congrArg (fun z => some (Value.int z)) (own_b1 (P := own_P p1) (by simp [own_P, c3_2, c10_59, c17_61, c30_63, c36_75])), N0, rfl⟩
      · have pre87 : ∀ t_, Steps p.tables e below (s₁.setTop (mkF m 24 #[.val (.int p1)] [(.int (159 : Int32)), (.int p1)])) t_ → Steps p.tables e below (s₁.setTop (entryFrame m #[(.int p1)] 1)) t_ := fun t_ k_ => pre60 t_ (by
            refine XS.icmpNo X0.here hx rfl (hb hby dA_17) rfl (flt c17_61).1 ?_
            show Steps p.tables e below (s₁.setTop (mkF m 20 #[.val (.int p1)] [])) _
            refine XS.iloadN X0.here hx rfl (hb hby dA_20) rfl ?_
            show Steps p.tables e below (s₁.setTop (mkF m 21 #[.val (.int p1)] [(.int p1)])) _
            refine XS.sipush X0.here hx rfl (hb hby dA_21) ?_
            show Steps p.tables e below (s₁.setTop (mkF m 24 #[.val (.int p1)] [(.int (159 : Int32)), (.int p1)])) _
            exact k_)
        by_cases c24_88 : (159 : Int32) < p1
        · have pre89 : ∀ t_, Steps p.tables e below (s₁.setTop (mkF m 30 #[.val (.int p1)] [(.int (64976 : Int32)), (.int p1)])) t_ → Steps p.tables e below (s₁.setTop (entryFrame m #[(.int p1)] 1)) t_ := fun t_ k_ => pre87 t_ (by
              refine XS.icmpNo X0.here hx rfl (hb hby dA_24) rfl (tlt c24_88).2.2.2 ?_
              show Steps p.tables e below (s₁.setTop (mkF m 27 #[.val (.int p1)] [])) _
              refine XS.iloadN X0.here hx rfl (hb hby dA_27) rfl ?_
              show Steps p.tables e below (s₁.setTop (mkF m 28 #[.val (.int p1)] [(.int p1)])) _
              refine X0.ldcInt hx hown (mvT hZ (hw _ (List.mem_of_getElem? (i := 4) rfl))) (g := (mkF m 28 #[.val (.int p1)] [(.int p1)])) rfl (hb hby dA_28) _ ?_
              show Steps p.tables e below (s₁.setTop (mkF m 30 #[.val (.int p1)] [(.int (64976 : Int32)), (.int p1)])) _
              exact k_)
          by_cases c30_90 : p1 < (64976 : Int32)
          · have pre91 : ∀ t_, Steps p.tables e below (s₁.setTop (mkF m 42 #[.val (.int p1)] [(.int (131070 : Int32)), (.int p1)])) t_ → Steps p.tables e below (s₁.setTop (entryFrame m #[(.int p1)] 1)) t_ := fun t_ k_ => pre89 t_ (by
                refine XS.icmpYes X0.here hx rfl (pc0 := 30) (pc' := 39) rfl (hb hby dA_30) rfl (tlt c30_90).1 (by decide) (by decide) ?_
                show Steps p.tables e below (s₁.setTop (mkF m 39 #[.val (.int p1)] [])) _
                refine XS.iloadN X0.here hx rfl (hb hby dA_39) rfl ?_
                show Steps p.tables e below (s₁.setTop (mkF m 40 #[.val (.int p1)] [(.int p1)])) _
                refine X0.ldcInt hx hown (mvT hZ (hw _ (List.mem_of_getElem? (i := 5) rfl))) (g := (mkF m 40 #[.val (.int p1)] [(.int p1)])) rfl (hb hby dA_40) _ ?_
                show Steps p.tables e below (s₁.setTop (mkF m 42 #[.val (.int p1)] [(.int (131070 : Int32)), (.int p1)])) _
                exact k_)
            by_cases c42_92 : p1 < (131070 : Int32)
            · have pre93 : ∀ t_, Steps p.tables e below (s₁.setTop (mkF m 65 #[.val (.int p1)] [(.int (0 : Int32))])) t_ → Steps p.tables e below (s₁.setTop (entryFrame m #[(.int p1)] 1)) t_ := fun t_ k_ => pre91 t_ (by
                  refine XS.icmpYes X0.here hx rfl (pc0 := 42) (pc' := 64) rfl (hb hby dA_42) rfl (tlt c42_92).1 (by decide) (by decide) ?_
                  show Steps p.tables e below (s₁.setTop (mkF m 64 #[.val (.int p1)] [])) _
                  refine XS.iconst X0.here hx rfl (hb hby dA_64) ?_
                  show Steps p.tables e below (s₁.setTop (mkF m 65 #[.val (.int p1)] [(.int (0 : Int32))])) _
                  exact k_)
              obtain ⟨fs, hr, hrun, hended, hW, hsame⟩ := X0.leave (v := some (.int (0 : Int32))) (fun h => by rw [Bd.returns] at h; cases h)
              refine ⟨_, _, pre93 _ ?_, hrun, hended, _, _, rfl, ?_, ⟨_, rfl⟩, hW, hsame.mono (by decide) (by decide)⟩
              · exact retN X0 hx (t := .boolean) Bd.returns (by simp) (hb hby dA_65) hr
              · show QA Z p1 h0 n0 _ s₁.heap _
                rw [e0]
                exact ⟨congrArg (fun z => some (Value.int z)) (own_b0 (P := own_P p1) (by simp [own_P, c3_2, c10_59, c17_61, c24_88, c30_90, c42_92])), N0, rfl⟩
            · have pre94 : ∀ t_, Steps p.tables e below (s₁.setTop (mkF m 48 #[.val (.int p1)] [(.int (1114111 : Int32)), (.int p1)])) t_ → Steps p.tables e below (s₁.setTop (entryFrame m #[(.int p1)] 1)) t_ := fun t_ k_ => pre91 t_ (by
                  refine XS.icmpNo X0.here hx rfl (hb hby dA_42) rfl (flt c42_92).1 ?_
                  show Steps p.tables e below (s₁.setTop (mkF m 45 #[.val (.int p1)] [])) _
                  refine XS.iloadN X0.here hx rfl (hb hby dA_45) rfl ?_
                  show Steps p.tables e below (s₁.setTop (mkF m 46 #[.val (.int p1)] [(.int p1)])) _
                  refine X0.ldcInt hx hown (mvT hZ (hw _ (List.mem_of_getElem? (i := 21) rfl))) (g := (mkF m 46 #[.val (.int p1)] [(.int p1)])) rfl (hb hby dA_46) _ ?_
                  show Steps p.tables e below (s₁.setTop (mkF m 48 #[.val (.int p1)] [(.int (1114111 : Int32)), (.int p1)])) _
                  exact k_)
              by_cases c48_95 : (1114111 : Int32) < p1
              · have pre96 : ∀ t_, Steps p.tables e below (s₁.setTop (mkF m 65 #[.val (.int p1)] [(.int (0 : Int32))])) t_ → Steps p.tables e below (s₁.setTop (entryFrame m #[(.int p1)] 1)) t_ := fun t_ k_ => pre94 t_ (by
                    refine XS.icmpYes X0.here hx rfl (pc0 := 48) (pc' := 64) rfl (hb hby dA_48) rfl (tlt c48_95).2.2.1 (by decide) (by decide) ?_
                    show Steps p.tables e below (s₁.setTop (mkF m 64 #[.val (.int p1)] [])) _
                    refine XS.iconst X0.here hx rfl (hb hby dA_64) ?_
                    show Steps p.tables e below (s₁.setTop (mkF m 65 #[.val (.int p1)] [(.int (0 : Int32))])) _
                    exact k_)
                obtain ⟨fs, hr, hrun, hended, hW, hsame⟩ := X0.leave (v := some (.int (0 : Int32))) (fun h => by rw [Bd.returns] at h; cases h)
                refine ⟨_, _, pre96 _ ?_, hrun, hended, _, _, rfl, ?_, ⟨_, rfl⟩, hW, hsame.mono (by decide) (by decide)⟩
                · exact retN X0 hx (t := .boolean) Bd.returns (by simp) (hb hby dA_65) hr
                · show QA Z p1 h0 n0 _ s₁.heap _
                  rw [e0]
                  exact ⟨congrArg (fun z => some (Value.int z)) (own_b0 (P := own_P p1) (by simp [own_P, c3_2, c10_59, c17_61, c24_88, c30_90, c42_92, c48_95])), N0, rfl⟩
              · have pre97 : ∀ t_, Steps p.tables e below (s₁.setTop (mkF m 57 #[.val (.int p1)] [(.int (65534 : Int32)), (.int (p1 &&& (65534 : Int32)))])) t_ → Steps p.tables e below (s₁.setTop (entryFrame m #[(.int p1)] 1)) t_ := fun t_ k_ => pre94 t_ (by
                    refine XS.icmpNo X0.here hx rfl (hb hby dA_48) rfl (flt c48_95).2.2.1 ?_
                    show Steps p.tables e below (s₁.setTop (mkF m 51 #[.val (.int p1)] [])) _
                    refine XS.iloadN X0.here hx rfl (hb hby dA_51) rfl ?_
                    show Steps p.tables e below (s₁.setTop (mkF m 52 #[.val (.int p1)] [(.int p1)])) _
                    refine X0.ldcInt hx hown (mvT hZ (hw _ (List.mem_of_getElem? (i := 23) rfl))) (g := (mkF m 52 #[.val (.int p1)] [(.int p1)])) rfl (hb hby dA_52) _ ?_
                    show Steps p.tables e below (s₁.setTop (mkF m 54 #[.val (.int p1)] [(.int (65534 : Int32)), (.int p1)])) _
                    refine XS.iand X0.here hx rfl (hb hby dA_54) rfl ?_
                    show Steps p.tables e below (s₁.setTop (mkF m 55 #[.val (.int p1)] [(.int (p1 &&& (65534 : Int32)))])) _
                    refine X0.ldcInt hx hown (mvT hZ (hw _ (List.mem_of_getElem? (i := 23) rfl))) (g := (mkF m 55 #[.val (.int p1)] [(.int (p1 &&& (65534 : Int32)))])) rfl (hb hby dA_55) _ ?_
                    show Steps p.tables e below (s₁.setTop (mkF m 57 #[.val (.int p1)] [(.int (65534 : Int32)), (.int (p1 &&& (65534 : Int32)))])) _
                    exact k_)
                by_cases c57_98 : (p1 &&& (65534 : Int32)) = (65534 : Int32)
                · have pre99 : ∀ t_, Steps p.tables e below (s₁.setTop (mkF m 65 #[.val (.int p1)] [(.int (1 : Int32))])) t_ → Steps p.tables e below (s₁.setTop (entryFrame m #[(.int p1)] 1)) t_ := fun t_ k_ => pre97 t_ (by
                      refine XS.icmpNo X0.here hx rfl (hb hby dA_57) rfl (teq c57_98).2 ?_
                      show Steps p.tables e below (s₁.setTop (mkF m 60 #[.val (.int p1)] [])) _
                      refine XS.iconst X0.here hx rfl (hb hby dA_60) ?_
                      show Steps p.tables e below (s₁.setTop (mkF m 61 #[.val (.int p1)] [(.int (1 : Int32))])) _
                      refine XS.goto X0.here hx rfl (pc0 := 61) (pc' := 65) rfl (hb hby dA_61) (by decide) (by decide) ?_
                      show Steps p.tables e below (s₁.setTop (mkF m 65 #[.val (.int p1)] [(.int (1 : Int32))])) _
                      exact k_)
                  obtain ⟨fs, hr, hrun, hended, hW, hsame⟩ := X0.leave (v := some (.int (1 : Int32))) (fun h => by rw [Bd.returns] at h; cases h)
                  refine ⟨_, _, pre99 _ ?_, hrun, hended, _, _, rfl, ?_, ⟨_, rfl⟩, hW, hsame.mono (by decide) (by decide)⟩
                  · exact retN X0 hx (t := .boolean) Bd.returns (by simp) (hb hby dA_65) hr
                  · show QA Z p1 h0 n0 _ s₁.heap _
                    rw [e0]
                    exact ⟨congrArg (fun z => some (Value.int z)) (own_b1 (P := own_P p1) (by simp [own_P, c3_2, c10_59, c17_61, c24_88, c30_90, c42_92, c48_95, c57_98])), N0, rfl⟩
                · have pre100 : ∀ t_, Steps p.tables e below (s₁.setTop (mkF m 65 #[.val (.int p1)] [(.int (0 : Int32))])) t_ → Steps p.tables e below (s₁.setTop (entryFrame m #[(.int p1)] 1)) t_ := fun t_ k_ => pre97 t_ (by
                      refine XS.icmpYes X0.here hx rfl (pc0 := 57) (pc' := 64) rfl (hb hby dA_57) rfl (feq c57_98).2 (by decide) (by decide) ?_
                      show Steps p.tables e below (s₁.setTop (mkF m 64 #[.val (.int p1)] [])) _
                      refine XS.iconst X0.here hx rfl (hb hby dA_64) ?_
                      show Steps p.tables e below (s₁.setTop (mkF m 65 #[.val (.int p1)] [(.int (0 : Int32))])) _
                      exact k_)
                  obtain ⟨fs, hr, hrun, hended, hW, hsame⟩ := X0.leave (v := some (.int (0 : Int32))) (fun h => by rw [Bd.returns] at h; cases h)
                  refine ⟨_, _, pre100 _ ?_, hrun, hended, _, _, rfl, ?_, ⟨_, rfl⟩, hW, hsame.mono (by decide) (by decide)⟩
                  · exact retN X0 hx (t := .boolean) Bd.returns (by simp) (hb hby dA_65) hr
                  · show QA Z p1 h0 n0 _ s₁.heap _
                    rw [e0]
                    exact ⟨congrArg (fun z => some (Value.int z)) (own_b0 (P := own_P p1) (by simp [own_P, c3_2, c10_59, c17_61, c24_88, c30_90, c42_92, c48_95, c57_98])), N0, rfl⟩
          · have pre101 : ∀ t_, Steps p.tables e below (s₁.setTop (mkF m 36 #[.val (.int p1)] [(.int (65007 : Int32)), (.int p1)])) t_ → Steps p.tables e below (s₁.setTop (entryFrame m #[(.int p1)] 1)) t_ := fun t_ k_ => pre89 t_ (by
                refine XS.icmpNo X0.here hx rfl (hb hby dA_30) rfl (flt c30_90).1 ?_
                show Steps p.tables e below (s₁.setTop (mkF m 33 #[.val (.int p1)] [])) _
                refine XS.iloadN X0.here hx rfl (hb hby dA_33) rfl ?_
                show Steps p.tables e below (s₁.setTop (mkF m 34 #[.val (.int p1)] [(.int p1)])) _
                refine X0.ldcInt hx hown (mvT hZ (hw _ (List.mem_of_getElem? (i := 19) rfl))) (g := (mkF m 34 #[.val (.int p1)] [(.int p1)])) rfl (hb hby dA_34) _ ?_
                show Steps p.tables e below (s₁.setTop (mkF m 36 #[.val (.int p1)] [(.int (65007 : Int32)), (.int p1)])) _
                exact k_)
            by_cases c36_102 : (65007 : Int32) < p1
            · have pre103 : ∀ t_, Steps p.tables e below (s₁.setTop (mkF m 42 #[.val (.int p1)] [(.int (131070 : Int32)), (.int p1)])) t_ → Steps p.tables e below (s₁.setTop (entryFrame m #[(.int p1)] 1)) t_ := fun t_ k_ => pre101 t_ (by
                  refine XS.icmpNo X0.here hx rfl (hb hby dA_36) rfl (tlt c36_102).2.2.2 ?_
                  show Steps p.tables e below (s₁.setTop (mkF m 39 #[.val (.int p1)] [])) _
                  refine XS.iloadN X0.here hx rfl (hb hby dA_39) rfl ?_
                  show Steps p.tables e below (s₁.setTop (mkF m 40 #[.val (.int p1)] [(.int p1)])) _
                  refine X0.ldcInt hx hown (mvT hZ (hw _ (List.mem_of_getElem? (i := 5) rfl))) (g := (mkF m 40 #[.val (.int p1)] [(.int p1)])) rfl (hb hby dA_40) _ ?_
                  show Steps p.tables e below (s₁.setTop (mkF m 42 #[.val (.int p1)] [(.int (131070 : Int32)), (.int p1)])) _
                  exact k_)
              by_cases c42_104 : p1 < (131070 : Int32)
              · have pre105 : ∀ t_, Steps p.tables e below (s₁.setTop (mkF m 65 #[.val (.int p1)] [(.int (0 : Int32))])) t_ → Steps p.tables e below (s₁.setTop (entryFrame m #[(.int p1)] 1)) t_ := fun t_ k_ => pre103 t_ (by
                    refine XS.icmpYes X0.here hx rfl (pc0 := 42) (pc' := 64) rfl (hb hby dA_42) rfl (tlt c42_104).1 (by decide) (by decide) ?_
                    show Steps p.tables e below (s₁.setTop (mkF m 64 #[.val (.int p1)] [])) _
                    refine XS.iconst X0.here hx rfl (hb hby dA_64) ?_
                    show Steps p.tables e below (s₁.setTop (mkF m 65 #[.val (.int p1)] [(.int (0 : Int32))])) _
                    exact k_)
                obtain ⟨fs, hr, hrun, hended, hW, hsame⟩ := X0.leave (v := some (.int (0 : Int32))) (fun h => by rw [Bd.returns] at h; cases h)
                refine ⟨_, _, pre105 _ ?_, hrun, hended, _, _, rfl, ?_, ⟨_, rfl⟩, hW, hsame.mono (by decide) (by decide)⟩
                · exact retN X0 hx (t := .boolean) Bd.returns (by simp) (hb hby dA_65) hr
                · show QA Z p1 h0 n0 _ s₁.heap _
                  rw [e0]
                  exact ⟨congrArg (fun z => some (Value.int z)) (own_b0 (P := own_P p1) (by simp [own_P, c3_2, c10_59, c17_61, c24_88, c30_90, c36_102, c42_104])), N0, rfl⟩
              · have pre106 : ∀ t_, Steps p.tables e below (s₁.setTop (mkF m 48 #[.val (.int p1)] [(.int (1114111 : Int32)), (.int p1)])) t_ → Steps p.tables e below (s₁.setTop (entryFrame m #[(.int p1)] 1)) t_ := fun t_ k_ => pre103 t_ (by
                    refine XS.icmpNo X0.here hx rfl (hb hby dA_42) rfl (flt c42_104).1 ?_
                    show Steps p.tables e below (s₁.setTop (mkF m 45 #[.val (.int p1)] [])) _
                    refine XS.iloadN X0.here hx rfl (hb hby dA_45) rfl ?_
                    show Steps p.tables e below (s₁.setTop (mkF m 46 #[.val (.int p1)] [(.int p1)])) _
                    refine X0.ldcInt hx hown (mvT hZ (hw _ (List.mem_of_getElem? (i := 21) rfl))) (g := (mkF m 46 #[.val (.int p1)] [(.int p1)])) rfl (hb hby dA_46) _ ?_
                    show Steps p.tables e below (s₁.setTop (mkF m 48 #[.val (.int p1)] [(.int (1114111 : Int32)), (.int p1)])) _
                    exact k_)
                by_cases c48_107 : (1114111 : Int32) < p1
                · have pre108 : ∀ t_, Steps p.tables e below (s₁.setTop (mkF m 65 #[.val (.int p1)] [(.int (0 : Int32))])) t_ → Steps p.tables e below (s₁.setTop (entryFrame m #[(.int p1)] 1)) t_ := fun t_ k_ => pre106 t_ (by
                      refine XS.icmpYes X0.here hx rfl (pc0 := 48) (pc' := 64) rfl (hb hby dA_48) rfl (tlt c48_107).2.2.1 (by decide) (by decide) ?_
                      show Steps p.tables e below (s₁.setTop (mkF m 64 #[.val (.int p1)] [])) _
                      refine XS.iconst X0.here hx rfl (hb hby dA_64) ?_
                      show Steps p.tables e below (s₁.setTop (mkF m 65 #[.val (.int p1)] [(.int (0 : Int32))])) _
                      exact k_)
                  obtain ⟨fs, hr, hrun, hended, hW, hsame⟩ := X0.leave (v := some (.int (0 : Int32))) (fun h => by rw [Bd.returns] at h; cases h)
                  refine ⟨_, _, pre108 _ ?_, hrun, hended, _, _, rfl, ?_, ⟨_, rfl⟩, hW, hsame.mono (by decide) (by decide)⟩
                  · exact retN X0 hx (t := .boolean) Bd.returns (by simp) (hb hby dA_65) hr
                  · show QA Z p1 h0 n0 _ s₁.heap _
                    rw [e0]
                    exact ⟨congrArg (fun z => some (Value.int z)) (own_b0 (P := own_P p1) (by simp [own_P, c3_2, c10_59, c17_61, c24_88, c30_90, c36_102, c42_104, c48_107])), N0, rfl⟩
                · have pre109 : ∀ t_, Steps p.tables e below (s₁.setTop (mkF m 57 #[.val (.int p1)] [(.int (65534 : Int32)), (.int (p1 &&& (65534 : Int32)))])) t_ → Steps p.tables e below (s₁.setTop (entryFrame m #[(.int p1)] 1)) t_ := fun t_ k_ => pre106 t_ (by
                      refine XS.icmpNo X0.here hx rfl (hb hby dA_48) rfl (flt c48_107).2.2.1 ?_
                      show Steps p.tables e below (s₁.setTop (mkF m 51 #[.val (.int p1)] [])) _
                      refine XS.iloadN X0.here hx rfl (hb hby dA_51) rfl ?_
                      show Steps p.tables e below (s₁.setTop (mkF m 52 #[.val (.int p1)] [(.int p1)])) _
                      refine X0.ldcInt hx hown (mvT hZ (hw _ (List.mem_of_getElem? (i := 23) rfl))) (g := (mkF m 52 #[.val (.int p1)] [(.int p1)])) rfl (hb hby dA_52) _ ?_
                      show Steps p.tables e below (s₁.setTop (mkF m 54 #[.val (.int p1)] [(.int (65534 : Int32)), (.int p1)])) _
                      refine XS.iand X0.here hx rfl (hb hby dA_54) rfl ?_
                      show Steps p.tables e below (s₁.setTop (mkF m 55 #[.val (.int p1)] [(.int (p1 &&& (65534 : Int32)))])) _
                      refine X0.ldcInt hx hown (mvT hZ (hw _ (List.mem_of_getElem? (i := 23) rfl))) (g := (mkF m 55 #[.val (.int p1)] [(.int (p1 &&& (65534 : Int32)))])) rfl (hb hby dA_55) _ ?_
                      show Steps p.tables e below (s₁.setTop (mkF m 57 #[.val (.int p1)] [(.int (65534 : Int32)), (.int (p1 &&& (65534 : Int32)))])) _
                      exact k_)
                  by_cases c57_110 : (p1 &&& (65534 : Int32)) = (65534 : Int32)
                  · have pre111 : ∀ t_, Steps p.tables e below (s₁.setTop (mkF m 65 #[.val (.int p1)] [(.int (1 : Int32))])) t_ → Steps p.tables e below (s₁.setTop (entryFrame m #[(.int p1)] 1)) t_ := fun t_ k_ => pre109 t_ (by
                        refine XS.icmpNo X0.here hx rfl (hb hby dA_57) rfl (teq c57_110).2 ?_
                        show Steps p.tables e below (s₁.setTop (mkF m 60 #[.val (.int p1)] [])) _
                        refine XS.iconst X0.here hx rfl (hb hby dA_60) ?_
                        show Steps p.tables e below (s₁.setTop (mkF m 61 #[.val (.int p1)] [(.int (1 : Int32))])) _
                        refine XS.goto X0.here hx rfl (pc0 := 61) (pc' := 65) rfl (hb hby dA_61) (by decide) (by decide) ?_
                        show Steps p.tables e below (s₁.setTop (mkF m 65 #[.val (.int p1)] [(.int (1 : Int32))])) _
                        exact k_)
                    obtain ⟨fs, hr, hrun, hended, hW, hsame⟩ := X0.leave (v := some (.int (1 : Int32))) (fun h => by rw [Bd.returns] at h; cases h)
                    refine ⟨_, _, pre111 _ ?_, hrun, hended, _, _, rfl, ?_, ⟨_, rfl⟩, hW, hsame.mono (by decide) (by decide)⟩
                    · exact retN X0 hx (t := .boolean) Bd.returns (by simp) (hb hby dA_65) hr
                    · show QA Z p1 h0 n0 _ s₁.heap _
                      rw [e0]
                      exact ⟨congrArg (fun z => some (Value.int z)) (own_b1 (P := own_P p1) (by simp [own_P, c3_2, c10_59, c17_61, c24_88, c30_90, c36_102, c42_104, c48_107, c57_110])), N0, rfl⟩
                  · have pre112 : ∀ t_, Steps p.tables e below (s₁.setTop (mkF m 65 #[.val (.int p1)] [(.int (0 : Int32))])) t_ → Steps p.tables e below (s₁.setTop (entryFrame m #[(.int p1)] 1)) t_ := fun t_ k_ => pre109 t_ (by
                        refine XS.icmpYes X0.here hx rfl (pc0 := 57) (pc' := 64) rfl (hb hby dA_57) rfl (feq c57_110).2 (by decide) (by decide) ?_
                        show Steps p.tables e below (s₁.setTop (mkF m 64 #[.val (.int p1)] [])) _
                        refine XS.iconst X0.here hx rfl (hb hby dA_64) ?_
                        show Steps p.tables e below (s₁.setTop (mkF m 65 #[.val (.int p1)] [(.int (0 : Int32))])) _
                        exact k_)
                    obtain ⟨fs, hr, hrun, hended, hW, hsame⟩ := X0.leave (v := some (.int (0 : Int32))) (fun h => by rw [Bd.returns] at h; cases h)
                    refine ⟨_, _, pre112 _ ?_, hrun, hended, _, _, rfl, ?_, ⟨_, rfl⟩, hW, hsame.mono (by decide) (by decide)⟩
                    · exact retN X0 hx (t := .boolean) Bd.returns (by simp) (hb hby dA_65) hr
                    · show QA Z p1 h0 n0 _ s₁.heap _
                      rw [e0]
                      exact ⟨congrArg (fun z => some (Value.int z)) (own_b0 (P := own_P p1) (by simp [own_P, c3_2, c10_59, c17_61, c24_88, c30_90, c36_102, c42_104, c48_107, c57_110])), N0, rfl⟩
            · have pre113 : ∀ t_, Steps p.tables e below (s₁.setTop (mkF m 65 #[.val (.int p1)] [(.int (1 : Int32))])) t_ → Steps p.tables e below (s₁.setTop (entryFrame m #[(.int p1)] 1)) t_ := fun t_ k_ => pre101 t_ (by
                  refine XS.icmpYes X0.here hx rfl (pc0 := 36) (pc' := 60) rfl (hb hby dA_36) rfl (flt c36_102).2.2.2 (by decide) (by decide) ?_
                  show Steps p.tables e below (s₁.setTop (mkF m 60 #[.val (.int p1)] [])) _
                  refine XS.iconst X0.here hx rfl (hb hby dA_60) ?_
                  show Steps p.tables e below (s₁.setTop (mkF m 61 #[.val (.int p1)] [(.int (1 : Int32))])) _
                  refine XS.goto X0.here hx rfl (pc0 := 61) (pc' := 65) rfl (hb hby dA_61) (by decide) (by decide) ?_
                  show Steps p.tables e below (s₁.setTop (mkF m 65 #[.val (.int p1)] [(.int (1 : Int32))])) _
                  exact k_)
              obtain ⟨fs, hr, hrun, hended, hW, hsame⟩ := X0.leave (v := some (.int (1 : Int32))) (fun h => by rw [Bd.returns] at h; cases h)
              refine ⟨_, _, pre113 _ ?_, hrun, hended, _, _, rfl, ?_, ⟨_, rfl⟩, hW, hsame.mono (by decide) (by decide)⟩
              · exact retN X0 hx (t := .boolean) Bd.returns (by simp) (hb hby dA_65) hr
              · show QA Z p1 h0 n0 _ s₁.heap _
                rw [e0]
                exact ⟨congrArg (fun z => some (Value.int z)) (own_b1 (P := own_P p1) (by simp [own_P, c3_2, c10_59, c17_61, c24_88, c30_90, c36_102])), N0, rfl⟩
        · have pre114 : ∀ t_, Steps p.tables e below (s₁.setTop (mkF m 65 #[.val (.int p1)] [(.int (1 : Int32))])) t_ → Steps p.tables e below (s₁.setTop (entryFrame m #[(.int p1)] 1)) t_ := fun t_ k_ => pre87 t_ (by
              refine XS.icmpYes X0.here hx rfl (pc0 := 24) (pc' := 60) rfl (hb hby dA_24) rfl (flt c24_88).2.2.2 (by decide) (by decide) ?_
              show Steps p.tables e below (s₁.setTop (mkF m 60 #[.val (.int p1)] [])) _
              refine XS.iconst X0.here hx rfl (hb hby dA_60) ?_
              show Steps p.tables e below (s₁.setTop (mkF m 61 #[.val (.int p1)] [(.int (1 : Int32))])) _
              refine XS.goto X0.here hx rfl (pc0 := 61) (pc' := 65) rfl (hb hby dA_61) (by decide) (by decide) ?_
              show Steps p.tables e below (s₁.setTop (mkF m 65 #[.val (.int p1)] [(.int (1 : Int32))])) _
              exact k_)
          obtain ⟨fs, hr, hrun, hended, hW, hsame⟩ := X0.leave (v := some (.int (1 : Int32))) (fun h => by rw [Bd.returns] at h; cases h)
          refine ⟨_, _, pre114 _ ?_, hrun, hended, _, _, rfl, ?_, ⟨_, rfl⟩, hW, hsame.mono (by decide) (by decide)⟩
          · exact retN X0 hx (t := .boolean) Bd.returns (by simp) (hb hby dA_65) hr
          · show QA Z p1 h0 n0 _ s₁.heap _
            rw [e0]
            exact ⟨congrArg (fun z => some (Value.int z)) (own_b1 (P := own_P p1) (by simp [own_P, c3_2, c10_59, c17_61, c24_88])), N0, rfl⟩
    · have pre115 : ∀ t_, Steps p.tables e below (s₁.setTop (mkF m 65 #[.val (.int p1)] [(.int (1 : Int32))])) t_ → Steps p.tables e below (s₁.setTop (entryFrame m #[(.int p1)] 1)) t_ := fun t_ k_ => pre58 t_ (by
          refine XS.icmpYes X0.here hx rfl (pc0 := 10) (pc' := 60) rfl (hb hby dA_10) rfl (flt c10_59).2.2.2 (by decide) (by decide) ?_
          show Steps p.tables e below (s₁.setTop (mkF m 60 #[.val (.int p1)] [])) _
          refine XS.iconst X0.here hx rfl (hb hby dA_60) ?_
          show Steps p.tables e below (s₁.setTop (mkF m 61 #[.val (.int p1)] [(.int (1 : Int32))])) _
          refine XS.goto X0.here hx rfl (pc0 := 61) (pc' := 65) rfl (hb hby dA_61) (by decide) (by decide) ?_
          show Steps p.tables e below (s₁.setTop (mkF m 65 #[.val (.int p1)] [(.int (1 : Int32))])) _
          exact k_)
      obtain ⟨fs, hr, hrun, hended, hW, hsame⟩ := X0.leave (v := some (.int (1 : Int32))) (fun h => by rw [Bd.returns] at h; cases h)
      refine ⟨_, _, pre115 _ ?_, hrun, hended, _, _, rfl, ?_, ⟨_, rfl⟩, hW, hsame.mono (by decide) (by decide)⟩
      · exact retN X0 hx (t := .boolean) Bd.returns (by simp) (hb hby dA_65) hr
      · show QA Z p1 h0 n0 _ s₁.heap _
        rw [e0]
        exact ⟨congrArg (fun z => some (Value.int z)) (own_b1 (P := own_P p1) (by simp [own_P, c3_2, c10_59])), N0, rfl⟩
theorem dB_0 : decode method_3_code 0 = .ok (.iload_n 0, 1) := by decide +kernel
theorem dB_1 : decode method_3_code 1 = .ok (.bipush 127, 2) := by decide +kernel
theorem dB_3 : decode method_3_code 3 = .ok (.if_icmp .lt 21, 3) := by decide +kernel
theorem dB_6 : decode method_3_code 6 = .ok (.iload_n 0, 1) := by decide +kernel
theorem dB_7 : decode method_3_code 7 = .ok (.sipush 159, 3) := by decide +kernel
theorem dB_10 : decode method_3_code 10 = .ok (.if_icmp .gt 14, 3) := by decide +kernel
theorem dB_13 : decode method_3_code 13 = .ok (.iload_n 0, 1) := by decide +kernel
theorem dB_14 : decode method_3_code 14 = .ok (.sipush 133, 3) := by decide +kernel
theorem dB_17 : decode method_3_code 17 = .ok (.if_icmp .eq 7, 3) := by decide +kernel
theorem dB_20 : decode method_3_code 20 = .ok (.iconst 1, 1) := by decide +kernel
theorem dB_21 : decode method_3_code 21 = .ok (.goto 4, 3) := by decide +kernel
theorem dB_24 : decode method_3_code 24 = .ok (.iconst 0, 1) := by decide +kernel
theorem dB_25 : decode method_3_code 25 = .ok (.istore_n 1, 1) := by decide +kernel
theorem dB_26 : decode method_3_code 26 = .ok (.iload_n 0, 1) := by decide +kernel
theorem dB_27 : decode method_3_code 27 = .ok (.ldc 7, 2) := by decide +kernel
theorem dB_29 : decode method_3_code 29 = .ok (.if_icmp .lt 13, 3) := by decide +kernel
theorem dB_32 : decode method_3_code 32 = .ok (.iload_n 0, 1) := by decide +kernel
theorem dB_33 : decode method_3_code 33 = .ok (.ldc 8, 2) := by decide +kernel
theorem dB_35 : decode method_3_code 35 = .ok (.if_icmp .gt 7, 3) := by decide +kernel
theorem dB_38 : decode method_3_code 38 = .ok (.iconst 1, 1) := by decide +kernel
theorem dB_39 : decode method_3_code 39 = .ok (.goto 4, 3) := by decide +kernel
theorem dB_42 : decode method_3_code 42 = .ok (.iconst 0, 1) := by decide +kernel
theorem dB_43 : decode method_3_code 43 = .ok (.istore_n 2, 1) := by decide +kernel
theorem dB_44 : decode method_3_code 44 = .ok (.iload_n 0, 1) := by decide +kernel
theorem dB_45 : decode method_3_code 45 = .ok (.ldc 26, 2) := by decide +kernel
theorem dB_47 : decode method_3_code 47 = .ok (.if_icmp .lt 22, 3) := by decide +kernel
theorem dB_50 : decode method_3_code 50 = .ok (.iload_n 0, 1) := by decide +kernel
theorem dB_51 : decode method_3_code 51 = .ok (.ldc 10, 2) := by decide +kernel
theorem dB_53 : decode method_3_code 53 = .ok (.if_icmp .gt 16, 3) := by decide +kernel
theorem dB_56 : decode method_3_code 56 = .ok (.iload_n 0, 1) := by decide +kernel
theorem dB_57 : decode method_3_code 57 = .ok (.ldc 27, 2) := by decide +kernel
theorem dB_59 : decode method_3_code 59 = .ok (.iand, 1) := by decide +kernel
theorem dB_60 : decode method_3_code 60 = .ok (.ldc 11, 2) := by decide +kernel
theorem dB_62 : decode method_3_code 62 = .ok (.if_icmp .lt 7, 3) := by decide +kernel
theorem dB_65 : decode method_3_code 65 = .ok (.iconst 1, 1) := by decide +kernel
theorem dB_66 : decode method_3_code 66 = .ok (.goto 4, 3) := by decide +kernel
theorem dB_69 : decode method_3_code 69 = .ok (.iconst 0, 1) := by decide +kernel
theorem dB_70 : decode method_3_code 70 = .ok (.istore_n 3, 1) := by decide +kernel
theorem dB_71 : decode method_3_code 71 = .ok (.iload_n 1, 1) := by decide +kernel
theorem dB_72 : decode method_3_code 72 = .ok (.ifCond .ne 11, 3) := by decide +kernel
theorem dB_75 : decode method_3_code 75 = .ok (.iload_n 2, 1) := by decide +kernel
theorem dB_76 : decode method_3_code 76 = .ok (.ifCond .ne 7, 3) := by decide +kernel
theorem dB_79 : decode method_3_code 79 = .ok (.iload_n 3, 1) := by decide +kernel
theorem dB_80 : decode method_3_code 80 = .ok (.ifCond .eq 7, 3) := by decide +kernel
theorem dB_83 : decode method_3_code 83 = .ok (.iconst 1, 1) := by decide +kernel
theorem dB_84 : decode method_3_code 84 = .ok (.goto 4, 3) := by decide +kernel
theorem dB_87 : decode method_3_code 87 = .ok (.iconst 0, 1) := by decide +kernel
theorem dB_88 : decode method_3_code 88 = .ok (.ireturn, 1) := by decide +kernel
theorem pnB : plainName "com/example/godwit/godwit/XmlCharsIsDiscouragedPinLaw" = true := by first | (simp [plainName, overriddenIn]; done) | decide +kernel
theorem efB (m : MethodId) (p1 : Int32) : entryFrame m #[(.int p1)] 4 = mkF m 0 #[.val (.int p1), .unset, .unset, .unset] [] := by first | (simp [entryFrame, mkF, argsToLocals, Value.category]; done) | rfl
def QB (Z : State) (p1 : Int32) (h0 : Heap) (n0 : Nat) (v : Option Value) (h : Heap) (L : List Loc) : Prop := v = some (.int (if own_E p1 then 1 else 0)) ∧ Fr n0 L ∧ h = h0
set_option maxRecDepth 65536 in
set_option maxHeartbeats 40000000 in
theorem rmB (l : Launch) (Z : State) (a0 : Array Value) (hw : ∀ d ∈ tables_1, d.before a0 Z = true) (ws : List Jvm.Cond) (p1 : Int32) (h0 : Heap) (n0 : Nat) (Z0 : n0 ≤ h0.size) :
    MetFree l (⟨"com/example/godwit/godwit/XmlCharsIsDiscouragedPinLaw", "expected", "(I)Z"⟩ : MethodName) (head1 (Jvm.Cond.code (⟨"com/example/godwit/godwit/XmlCharsIsDiscouragedPinLaw", "expected", "(I)Z"⟩ : MethodName) method_3_code 4 (some .boolean) :: ws) ({ frames := 0, cells := 0, slots := 0, locals := 0 } : Room)) (fun a U => a = #[(.int p1)] ∧ Z.Warmed39 U.vm ∧ U.heap = h0) (fun _ _ _ _ _ => True) (fun _ U o U' => ∃ v L, o = .returned v ∧ QB Z p1 h0 n0 v U'.heap L ∧ FrameEnd U o U' L ({ frames := 0, cells := 0, slots := 0, locals := 0 } : Room).cells ({ frames := 0, cells := 0, slots := 0, locals := 0 } : Room).slots) := by
  refine MetFree.of_bodySF (plainFor_of_name pnB) hisR ?_
  intro p e s m args below meth c s₁ Bd hml0 hP hK
  obtain ⟨rfl, hZ, hh⟩ := hP
  have hx := Bd.exec
  have hby := Bd.bytes
  have hml : c.maxLocals = 4 := hml0
  have hown : s.vm.findClass "com/example/godwit/godwit/XmlCharsIsDiscouragedPinLaw" = some m.cls := findClass_of_methodNamed Bd.named
  have hnm := (name_of_methodNamed Bd.named Bd.method).1
  have X0 : Stand p l e ({ frames := 0, cells := 0, slots := 0, locals := 0 } : Room) s m #[(.int p1)] below meth c s₁ [] 0 0 := Stand.of_body Bd
  have e0 : s₁.heap = h0 := by rw [← hh, Bd.state]; rfl
  have N0 := Fr.nil n0
  have pre0 : ∀ t, Steps p.tables e below (s₁.setTop (mkF m 0 #[.val (.int p1), .unset, .unset, .unset] [])) t → Steps p.tables e below (s₁.setTop (entryFrame m #[(.int p1)] 4)) t := fun t k => castTop (efB m p1) k
  obtain ⟨v1, hv1, pre1⟩ : ∃ (v1 : Int32), (v1 = 1 ∧ own_C p1 ∨ v1 = 0 ∧ ¬ (own_C p1)) ∧ ∀ t_, Steps p.tables e below (s₁.setTop (mkF m 25 #[.val (.int p1), .unset, .unset, .unset] [(.int v1)])) t_ → Steps p.tables e below (s₁.setTop (entryFrame m #[(.int p1)] 4)) t_ := by
    have pre2 : ∀ t_, Steps p.tables e below (s₁.setTop (mkF m 3 #[.val (.int p1), .unset, .unset, .unset] [(.int (127 : Int32)), (.int p1)])) t_ → Steps p.tables e below (s₁.setTop (entryFrame m #[(.int p1)] 4)) t_ := fun t_ k_ => pre0 t_ (by
        refine XS.iloadN X0.here hx rfl (hb hby dB_0) rfl ?_
        show Steps p.tables e below (s₁.setTop (mkF m 1 #[.val (.int p1), .unset, .unset, .unset] [(.int p1)])) _
        refine XS.bipush X0.here hx rfl (hb hby dB_1) ?_
        show Steps p.tables e below (s₁.setTop (mkF m 3 #[.val (.int p1), .unset, .unset, .unset] [(.int (127 : Int32)), (.int p1)])) _
        exact k_)
    by_cases c3_3 : p1 < (127 : Int32)
    · have pre4 : ∀ t_, Steps p.tables e below (s₁.setTop (mkF m 25 #[.val (.int p1), .unset, .unset, .unset] [(.int (0 : Int32))])) t_ → Steps p.tables e below (s₁.setTop (entryFrame m #[(.int p1)] 4)) t_ := fun t_ k_ => pre2 t_ (by
          refine XS.icmpYes X0.here hx rfl (pc0 := 3) (pc' := 24) rfl (hb hby dB_3) rfl (tlt c3_3).1 (by decide) (by decide) ?_
          show Steps p.tables e below (s₁.setTop (mkF m 24 #[.val (.int p1), .unset, .unset, .unset] [])) _
          refine XS.iconst X0.here hx rfl (hb hby dB_24) ?_
          show Steps p.tables e below (s₁.setTop (mkF m 25 #[.val (.int p1), .unset, .unset, .unset] [(.int (0 : Int32))])) _
          exact k_)
      exact ⟨(0 : Int32), Or.inr ⟨rfl, by simp [own_C, c3_3]⟩, pre4⟩
    · have pre5 : ∀ t_, Steps p.tables e below (s₁.setTop (mkF m 10 #[.val (.int p1), .unset, .unset, .unset] [(.int (159 : Int32)), (.int p1)])) t_ → Steps p.tables e below (s₁.setTop (entryFrame m #[(.int p1)] 4)) t_ := fun t_ k_ => pre2 t_ (by
          refine XS.icmpNo X0.here hx rfl (hb hby dB_3) rfl (flt c3_3).1 ?_
          show Steps p.tables e below (s₁.setTop (mkF m 6 #[.val (.int p1), .unset, .unset, .unset] [])) _
          refine XS.iloadN X0.here hx rfl (hb hby dB_6) rfl ?_
          show Steps p.tables e below (s₁.setTop (mkF m 7 #[.val (.int p1), .unset, .unset, .unset] [(.int p1)])) _
          refine XS.sipush X0.here hx rfl (hb hby dB_7) ?_
          show Steps p.tables e below (s₁.setTop (mkF m 10 #[.val (.int p1), .unset, .unset, .unset] [(.int (159 : Int32)), (.int p1)])) _
          exact k_)
      by_cases c10_6 : (159 : Int32) < p1
      · have pre7 : ∀ t_, Steps p.tables e below (s₁.setTop (mkF m 25 #[.val (.int p1), .unset, .unset, .unset] [(.int (0 : Int32))])) t_ → Steps p.tables e below (s₁.setTop (entryFrame m #[(.int p1)] 4)) t_ := fun t_ k_ => pre5 t_ (by
            refine XS.icmpYes X0.here hx rfl (pc0 := 10) (pc' := 24) rfl (hb hby dB_10) rfl (tlt c10_6).2.2.1 (by decide) (by decide) ?_
            show Steps p.tables e below (s₁.setTop (mkF m 24 #[.val (.int p1), .unset, .unset, .unset] [])) _
            refine XS.iconst X0.here hx rfl (hb hby dB_24) ?_
            show Steps p.tables e below (s₁.setTop (mkF m 25 #[.val (.int p1), .unset, .unset, .unset] [(.int (0 : Int32))])) _
            exact k_)
        exact ⟨(0 : Int32), Or.inr ⟨rfl, by simp [own_C, c3_3, c10_6]⟩, pre7⟩
      · have pre8 : ∀ t_, Steps p.tables e below (s₁.setTop (mkF m 17 #[.val (.int p1), .unset, .unset, .unset] [(.int (133 : Int32)), (.int p1)])) t_ → Steps p.tables e below (s₁.setTop (entryFrame m #[(.int p1)] 4)) t_ := fun t_ k_ => pre5 t_ (by
            refine XS.icmpNo X0.here hx rfl (hb hby dB_10) rfl (flt c10_6).2.2.1 ?_
            show Steps p.tables e below (s₁.setTop (mkF m 13 #[.val (.int p1), .unset, .unset, .unset] [])) _
            refine XS.iloadN X0.here hx rfl (hb hby dB_13) rfl ?_
            show Steps p.tables e below (s₁.setTop (mkF m 14 #[.val (.int p1), .unset, .unset, .unset] [(.int p1)])) _
            refine XS.sipush X0.here hx rfl (hb hby dB_14) ?_
            show Steps p.tables e below (s₁.setTop (mkF m 17 #[.val (.int p1), .unset, .unset, .unset] [(.int (133 : Int32)), (.int p1)])) _
            exact k_)
        by_cases c17_9 : p1 = (133 : Int32)
        · have pre10 : ∀ t_, Steps p.tables e below (s₁.setTop (mkF m 25 #[.val (.int p1), .unset, .unset, .unset] [(.int (0 : Int32))])) t_ → Steps p.tables e below (s₁.setTop (entryFrame m #[(.int p1)] 4)) t_ := fun t_ k_ => pre8 t_ (by
              refine XS.icmpYes X0.here hx rfl (pc0 := 17) (pc' := 24) rfl (hb hby dB_17) rfl (teq c17_9).1 (by decide) (by decide) ?_
              show Steps p.tables e below (s₁.setTop (mkF m 24 #[.val (.int p1), .unset, .unset, .unset] [])) _
              refine XS.iconst X0.here hx rfl (hb hby dB_24) ?_
              show Steps p.tables e below (s₁.setTop (mkF m 25 #[.val (.int p1), .unset, .unset, .unset] [(.int (0 : Int32))])) _
              exact k_)
          exact ⟨(0 : Int32), Or.inr ⟨rfl, by simp [own_C, c3_3, c10_6, c17_9]⟩, pre10⟩
        · have pre11 : ∀ t_, Steps p.tables e below (s₁.setTop (mkF m 25 #[.val (.int p1), .unset, .unset, .unset] [(.int (1 : Int32))])) t_ → Steps p.tables e below (s₁.setTop (entryFrame m #[(.int p1)] 4)) t_ := fun t_ k_ => pre8 t_ (by
              refine XS.icmpNo X0.here hx rfl (hb hby dB_17) rfl (feq c17_9).1 ?_
              show Steps p.tables e below (s₁.setTop (mkF m 20 #[.val (.int p1), .unset, .unset, .unset] [])) _
              refine XS.iconst X0.here hx rfl (hb hby dB_20) ?_
              show Steps p.tables e below (s₁.setTop (mkF m 21 #[.val (.int p1), .unset, .unset, .unset] [(.int (1 : Int32))])) _
              refine XS.goto X0.here hx rfl (pc0 := 21) (pc' := 25) rfl (hb hby dB_21) (by decide) (by decide) ?_
              show Steps p.tables e below (s₁.setTop (mkF m 25 #[.val (.int p1), .unset, .unset, .unset] [(.int (1 : Int32))])) _
              exact k_)
          exact ⟨(1 : Int32), Or.inl ⟨rfl, by simp [own_C, c3_3, c10_6, c17_9]⟩, pre11⟩
  obtain ⟨v12, hv12, pre12⟩ : ∃ (v12 : Int32), (v12 = 1 ∧ own_A p1 ∨ v12 = 0 ∧ ¬ (own_A p1)) ∧ ∀ t_, Steps p.tables e below (s₁.setTop (mkF m 43 #[.val (.int p1), .val (.int v1), .unset, .unset] [(.int v12)])) t_ → Steps p.tables e below (s₁.setTop (entryFrame m #[(.int p1)] 4)) t_ := by
    have pre13 : ∀ t_, Steps p.tables e below (s₁.setTop (mkF m 29 #[.val (.int p1), .val (.int v1), .unset, .unset] [(.int (64976 : Int32)), (.int p1)])) t_ → Steps p.tables e below (s₁.setTop (entryFrame m #[(.int p1)] 4)) t_ := fun t_ k_ => pre1 t_ (by
        refine XS.istoreN X0.here hx rfl (hb hby dB_25) rfl (l' := #[.val (.int p1), .val (.int v1), .unset, .unset]) rfl ?_
        show Steps p.tables e below (s₁.setTop (mkF m 26 #[.val (.int p1), .val (.int v1), .unset, .unset] [])) _
        refine XS.iloadN X0.here hx rfl (hb hby dB_26) rfl ?_
        show Steps p.tables e below (s₁.setTop (mkF m 27 #[.val (.int p1), .val (.int v1), .unset, .unset] [(.int p1)])) _
        refine X0.ldcInt hx hown (mvT hZ (hw _ (List.mem_of_getElem? (i := 10) rfl))) (g := (mkF m 27 #[.val (.int p1), .val (.int v1), .unset, .unset] [(.int p1)])) rfl (hb hby dB_27) _ ?_
        show Steps p.tables e below (s₁.setTop (mkF m 29 #[.val (.int p1), .val (.int v1), .unset, .unset] [(.int (64976 : Int32)), (.int p1)])) _
        exact k_)
    by_cases c29_14 : p1 < (64976 : Int32)
    · have pre15 : ∀ t_, Steps p.tables e below (s₁.setTop (mkF m 43 #[.val (.int p1), .val (.int v1), .unset, .unset] [(.int (0 : Int32))])) t_ → Steps p.tables e below (s₁.setTop (entryFrame m #[(.int p1)] 4)) t_ := fun t_ k_ => pre13 t_ (by
          refine XS.icmpYes X0.here hx rfl (pc0 := 29) (pc' := 42) rfl (hb hby dB_29) rfl (tlt c29_14).1 (by decide) (by decide) ?_
          show Steps p.tables e below (s₁.setTop (mkF m 42 #[.val (.int p1), .val (.int v1), .unset, .unset] [])) _
          refine XS.iconst X0.here hx rfl (hb hby dB_42) ?_
          show Steps p.tables e below (s₁.setTop (mkF m 43 #[.val (.int p1), .val (.int v1), .unset, .unset] [(.int (0 : Int32))])) _
          exact k_)
      exact ⟨(0 : Int32), Or.inr ⟨rfl, by simp [own_A, c29_14]⟩, pre15⟩
    · have pre16 : ∀ t_, Steps p.tables e below (s₁.setTop (mkF m 35 #[.val (.int p1), .val (.int v1), .unset, .unset] [(.int (65007 : Int32)), (.int p1)])) t_ → Steps p.tables e below (s₁.setTop (entryFrame m #[(.int p1)] 4)) t_ := fun t_ k_ => pre13 t_ (by
          refine XS.icmpNo X0.here hx rfl (hb hby dB_29) rfl (flt c29_14).1 ?_
          show Steps p.tables e below (s₁.setTop (mkF m 32 #[.val (.int p1), .val (.int v1), .unset, .unset] [])) _
          refine XS.iloadN X0.here hx rfl (hb hby dB_32) rfl ?_
          show Steps p.tables e below (s₁.setTop (mkF m 33 #[.val (.int p1), .val (.int v1), .unset, .unset] [(.int p1)])) _
          refine X0.ldcInt hx hown (mvT hZ (hw _ (List.mem_of_getElem? (i := 13) rfl))) (g := (mkF m 33 #[.val (.int p1), .val (.int v1), .unset, .unset] [(.int p1)])) rfl (hb hby dB_33) _ ?_
          show Steps p.tables e below (s₁.setTop (mkF m 35 #[.val (.int p1), .val (.int v1), .unset, .unset] [(.int (65007 : Int32)), (.int p1)])) _
          exact k_)
      by_cases c35_17 : (65007 : Int32) < p1
      · have pre18 : ∀ t_, Steps p.tables e below (s₁.setTop (mkF m 43 #[.val (.int p1), .val (.int v1), .unset, .unset] [(.int (0 : Int32))])) t_ → Steps p.tables e below (s₁.setTop (entryFrame m #[(.int p1)] 4)) t_ := fun t_ k_ => pre16 t_ (by
            refine XS.icmpYes X0.here hx rfl (pc0 := 35) (pc' := 42) rfl (hb hby dB_35) rfl (tlt c35_17).2.2.1 (by decide) (by decide) ?_
            show Steps p.tables e below (s₁.setTop (mkF m 42 #[.val (.int p1), .val (.int v1), .unset, .unset] [])) _
            refine XS.iconst X0.here hx rfl (hb hby dB_42) ?_
            show Steps p.tables e below (s₁.setTop (mkF m 43 #[.val (.int p1), .val (.int v1), .unset, .unset] [(.int (0 : Int32))])) _
            exact k_)
        exact ⟨(0 : Int32), Or.inr ⟨rfl, by simp [own_A, c29_14, c35_17]⟩, pre18⟩
      · have pre19 : ∀ t_, Steps p.tables e below (s₁.setTop (mkF m 43 #[.val (.int p1), .val (.int v1), .unset, .unset] [(.int (1 : Int32))])) t_ → Steps p.tables e below (s₁.setTop (entryFrame m #[(.int p1)] 4)) t_ := fun t_ k_ => pre16 t_ (by
            refine XS.icmpNo X0.here hx rfl (hb hby dB_35) rfl (flt c35_17).2.2.1 ?_
            show Steps p.tables e below (s₁.setTop (mkF m 38 #[.val (.int p1), .val (.int v1), .unset, .unset] [])) _
            refine XS.iconst X0.here hx rfl (hb hby dB_38) ?_
            show Steps p.tables e below (s₁.setTop (mkF m 39 #[.val (.int p1), .val (.int v1), .unset, .unset] [(.int (1 : Int32))])) _
            refine XS.goto X0.here hx rfl (pc0 := 39) (pc' := 43) rfl (hb hby dB_39) (by decide) (by decide) ?_
            show Steps p.tables e below (s₁.setTop (mkF m 43 #[.val (.int p1), .val (.int v1), .unset, .unset] [(.int (1 : Int32))])) _
            exact k_)
        exact ⟨(1 : Int32), Or.inl ⟨rfl, by simp [own_A, c29_14, c35_17]⟩, pre19⟩
  obtain ⟨v20, hv20, pre20⟩ : ∃ (v20 : Int32), (v20 = 1 ∧ own_N p1 ∨ v20 = 0 ∧ ¬ (own_N p1)) ∧ ∀ t_, Steps p.tables e below (s₁.setTop (mkF m 70 #[.val (.int p1), .val (.int v1), .val (.int v12), .unset] [(.int v20)])) t_ → Steps p.tables e below (s₁.setTop (entryFrame m #[(.int p1)] 4)) t_ := by
    have pre21 : ∀ t_, Steps p.tables e below (s₁.setTop (mkF m 47 #[.val (.int p1), .val (.int v1), .val (.int v12), .unset] [(.int (65536 : Int32)), (.int p1)])) t_ → Steps p.tables e below (s₁.setTop (entryFrame m #[(.int p1)] 4)) t_ := fun t_ k_ => pre12 t_ (by
        refine XS.istoreN X0.here hx rfl (hb hby dB_43) rfl (l' := #[.val (.int p1), .val (.int v1), .val (.int v12), .unset]) rfl ?_
        show Steps p.tables e below (s₁.setTop (mkF m 44 #[.val (.int p1), .val (.int v1), .val (.int v12), .unset] [])) _
        refine XS.iloadN X0.here hx rfl (hb hby dB_44) rfl ?_
        show Steps p.tables e below (s₁.setTop (mkF m 45 #[.val (.int p1), .val (.int v1), .val (.int v12), .unset] [(.int p1)])) _
        refine X0.ldcInt hx hown (mvT hZ (hw _ (List.mem_of_getElem? (i := 11) rfl))) (g := (mkF m 45 #[.val (.int p1), .val (.int v1), .val (.int v12), .unset] [(.int p1)])) rfl (hb hby dB_45) _ ?_
        show Steps p.tables e below (s₁.setTop (mkF m 47 #[.val (.int p1), .val (.int v1), .val (.int v12), .unset] [(.int (65536 : Int32)), (.int p1)])) _
        exact k_)
    by_cases c47_22 : p1 < (65536 : Int32)
    · have pre23 : ∀ t_, Steps p.tables e below (s₁.setTop (mkF m 70 #[.val (.int p1), .val (.int v1), .val (.int v12), .unset] [(.int (0 : Int32))])) t_ → Steps p.tables e below (s₁.setTop (entryFrame m #[(.int p1)] 4)) t_ := fun t_ k_ => pre21 t_ (by
          refine XS.icmpYes X0.here hx rfl (pc0 := 47) (pc' := 69) rfl (hb hby dB_47) rfl (tlt c47_22).1 (by decide) (by decide) ?_
          show Steps p.tables e below (s₁.setTop (mkF m 69 #[.val (.int p1), .val (.int v1), .val (.int v12), .unset] [])) _
          refine XS.iconst X0.here hx rfl (hb hby dB_69) ?_
          show Steps p.tables e below (s₁.setTop (mkF m 70 #[.val (.int p1), .val (.int v1), .val (.int v12), .unset] [(.int (0 : Int32))])) _
          exact k_)
      exact ⟨(0 : Int32), Or.inr ⟨rfl, by simp [own_N, c47_22]⟩, pre23⟩
    · have pre24 : ∀ t_, Steps p.tables e below (s₁.setTop (mkF m 53 #[.val (.int p1), .val (.int v1), .val (.int v12), .unset] [(.int (1114111 : Int32)), (.int p1)])) t_ → Steps p.tables e below (s₁.setTop (entryFrame m #[(.int p1)] 4)) t_ := fun t_ k_ => pre21 t_ (by
          refine XS.icmpNo X0.here hx rfl (hb hby dB_47) rfl (flt c47_22).1 ?_
          show Steps p.tables e below (s₁.setTop (mkF m 50 #[.val (.int p1), .val (.int v1), .val (.int v12), .unset] [])) _
          refine XS.iloadN X0.here hx rfl (hb hby dB_50) rfl ?_
          show Steps p.tables e below (s₁.setTop (mkF m 51 #[.val (.int p1), .val (.int v1), .val (.int v12), .unset] [(.int p1)])) _
          refine X0.ldcInt hx hown (mvT hZ (hw _ (List.mem_of_getElem? (i := 15) rfl))) (g := (mkF m 51 #[.val (.int p1), .val (.int v1), .val (.int v12), .unset] [(.int p1)])) rfl (hb hby dB_51) _ ?_
          show Steps p.tables e below (s₁.setTop (mkF m 53 #[.val (.int p1), .val (.int v1), .val (.int v12), .unset] [(.int (1114111 : Int32)), (.int p1)])) _
          exact k_)
      by_cases c53_25 : (1114111 : Int32) < p1
      · have pre26 : ∀ t_, Steps p.tables e below (s₁.setTop (mkF m 70 #[.val (.int p1), .val (.int v1), .val (.int v12), .unset] [(.int (0 : Int32))])) t_ → Steps p.tables e below (s₁.setTop (entryFrame m #[(.int p1)] 4)) t_ := fun t_ k_ => pre24 t_ (by
            refine XS.icmpYes X0.here hx rfl (pc0 := 53) (pc' := 69) rfl (hb hby dB_53) rfl (tlt c53_25).2.2.1 (by decide) (by decide) ?_
            show Steps p.tables e below (s₁.setTop (mkF m 69 #[.val (.int p1), .val (.int v1), .val (.int v12), .unset] [])) _
            refine XS.iconst X0.here hx rfl (hb hby dB_69) ?_
            show Steps p.tables e below (s₁.setTop (mkF m 70 #[.val (.int p1), .val (.int v1), .val (.int v12), .unset] [(.int (0 : Int32))])) _
            exact k_)
        exact ⟨(0 : Int32), Or.inr ⟨rfl, by simp [own_N, c47_22, c53_25]⟩, pre26⟩
      · have pre27 : ∀ t_, Steps p.tables e below (s₁.setTop (mkF m 62 #[.val (.int p1), .val (.int v1), .val (.int v12), .unset] [(.int (65534 : Int32)), (.int (p1 &&& (65535 : Int32)))])) t_ → Steps p.tables e below (s₁.setTop (entryFrame m #[(.int p1)] 4)) t_ := fun t_ k_ => pre24 t_ (by
            refine XS.icmpNo X0.here hx rfl (hb hby dB_53) rfl (flt c53_25).2.2.1 ?_
            show Steps p.tables e below (s₁.setTop (mkF m 56 #[.val (.int p1), .val (.int v1), .val (.int v12), .unset] [])) _
            refine XS.iloadN X0.here hx rfl (hb hby dB_56) rfl ?_
            show Steps p.tables e below (s₁.setTop (mkF m 57 #[.val (.int p1), .val (.int v1), .val (.int v12), .unset] [(.int p1)])) _
            refine X0.ldcInt hx hown (mvT hZ (hw _ (List.mem_of_getElem? (i := 22) rfl))) (g := (mkF m 57 #[.val (.int p1), .val (.int v1), .val (.int v12), .unset] [(.int p1)])) rfl (hb hby dB_57) _ ?_
            show Steps p.tables e below (s₁.setTop (mkF m 59 #[.val (.int p1), .val (.int v1), .val (.int v12), .unset] [(.int (65535 : Int32)), (.int p1)])) _
            refine XS.iand X0.here hx rfl (hb hby dB_59) rfl ?_
            show Steps p.tables e below (s₁.setTop (mkF m 60 #[.val (.int p1), .val (.int v1), .val (.int v12), .unset] [(.int (p1 &&& (65535 : Int32)))])) _
            refine X0.ldcInt hx hown (mvT hZ (hw _ (List.mem_of_getElem? (i := 16) rfl))) (g := (mkF m 60 #[.val (.int p1), .val (.int v1), .val (.int v12), .unset] [(.int (p1 &&& (65535 : Int32)))])) rfl (hb hby dB_60) _ ?_
            show Steps p.tables e below (s₁.setTop (mkF m 62 #[.val (.int p1), .val (.int v1), .val (.int v12), .unset] [(.int (65534 : Int32)), (.int (p1 &&& (65535 : Int32)))])) _
            exact k_)
        by_cases c62_28 : (p1 &&& (65535 : Int32)) < (65534 : Int32)
        · have pre29 : ∀ t_, Steps p.tables e below (s₁.setTop (mkF m 70 #[.val (.int p1), .val (.int v1), .val (.int v12), .unset] [(.int (0 : Int32))])) t_ → Steps p.tables e below (s₁.setTop (entryFrame m #[(.int p1)] 4)) t_ := fun t_ k_ => pre27 t_ (by
              refine XS.icmpYes X0.here hx rfl (pc0 := 62) (pc' := 69) rfl (hb hby dB_62) rfl (tlt c62_28).1 (by decide) (by decide) ?_
              show Steps p.tables e below (s₁.setTop (mkF m 69 #[.val (.int p1), .val (.int v1), .val (.int v12), .unset] [])) _
              refine XS.iconst X0.here hx rfl (hb hby dB_69) ?_
              show Steps p.tables e below (s₁.setTop (mkF m 70 #[.val (.int p1), .val (.int v1), .val (.int v12), .unset] [(.int (0 : Int32))])) _
              exact k_)
          exact ⟨(0 : Int32), Or.inr ⟨rfl, by simp [own_N, c47_22, c53_25, c62_28]⟩, pre29⟩
        · have pre30 : ∀ t_, Steps p.tables e below (s₁.setTop (mkF m 70 #[.val (.int p1), .val (.int v1), .val (.int v12), .unset] [(.int (1 : Int32))])) t_ → Steps p.tables e below (s₁.setTop (entryFrame m #[(.int p1)] 4)) t_ := fun t_ k_ => pre27 t_ (by
              refine XS.icmpNo X0.here hx rfl (hb hby dB_62) rfl (flt c62_28).1 ?_
              show Steps p.tables e below (s₁.setTop (mkF m 65 #[.val (.int p1), .val (.int v1), .val (.int v12), .unset] [])) _
              refine XS.iconst X0.here hx rfl (hb hby dB_65) ?_
              show Steps p.tables e below (s₁.setTop (mkF m 66 #[.val (.int p1), .val (.int v1), .val (.int v12), .unset] [(.int (1 : Int32))])) _
              refine XS.goto X0.here hx rfl (pc0 := 66) (pc' := 70) rfl (hb hby dB_66) (by decide) (by decide) ?_
              show Steps p.tables e below (s₁.setTop (mkF m 70 #[.val (.int p1), .val (.int v1), .val (.int v12), .unset] [(.int (1 : Int32))])) _
              exact k_)
          exact ⟨(1 : Int32), Or.inl ⟨rfl, by simp [own_N, c47_22, c53_25, c62_28]⟩, pre30⟩
  have pre31 : ∀ t_, Steps p.tables e below (s₁.setTop (mkF m 72 #[.val (.int p1), .val (.int v1), .val (.int v12), .val (.int v20)] [(.int v1)])) t_ → Steps p.tables e below (s₁.setTop (entryFrame m #[(.int p1)] 4)) t_ := fun t_ k_ => pre20 t_ (by
      refine XS.istoreN X0.here hx rfl (hb hby dB_70) rfl (l' := #[.val (.int p1), .val (.int v1), .val (.int v12), .val (.int v20)]) rfl ?_
      show Steps p.tables e below (s₁.setTop (mkF m 71 #[.val (.int p1), .val (.int v1), .val (.int v12), .val (.int v20)] [])) _
      refine XS.iloadN X0.here hx rfl (hb hby dB_71) rfl ?_
      show Steps p.tables e below (s₁.setTop (mkF m 72 #[.val (.int p1), .val (.int v1), .val (.int v12), .val (.int v20)] [(.int v1)])) _
      exact k_)
  by_cases c72_32 : v1 = (0 : Int32)
  · have pre33 : ∀ t_, Steps p.tables e below (s₁.setTop (mkF m 76 #[.val (.int p1), .val (.int v1), .val (.int v12), .val (.int v20)] [(.int v12)])) t_ → Steps p.tables e below (s₁.setTop (entryFrame m #[(.int p1)] 4)) t_ := fun t_ k_ => pre31 t_ (by
        refine XS.ifNo X0.here hx rfl (hb hby dB_72) rfl ((if0 _ _).trans (teq c72_32).2) ?_
        show Steps p.tables e below (s₁.setTop (mkF m 75 #[.val (.int p1), .val (.int v1), .val (.int v12), .val (.int v20)] [])) _
        refine XS.iloadN X0.here hx rfl (hb hby dB_75) rfl ?_
        show Steps p.tables e below (s₁.setTop (mkF m 76 #[.val (.int p1), .val (.int v1), .val (.int v12), .val (.int v20)] [(.int v12)])) _
        exact k_)
    by_cases c76_34 : v12 = (0 : Int32)
    · have pre35 : ∀ t_, Steps p.tables e below (s₁.setTop (mkF m 80 #[.val (.int p1), .val (.int v1), .val (.int v12), .val (.int v20)] [(.int v20)])) t_ → Steps p.tables e below (s₁.setTop (entryFrame m #[(.int p1)] 4)) t_ := fun t_ k_ => pre33 t_ (by
          refine XS.ifNo X0.here hx rfl (hb hby dB_76) rfl ((if0 _ _).trans (teq c76_34).2) ?_
          show Steps p.tables e below (s₁.setTop (mkF m 79 #[.val (.int p1), .val (.int v1), .val (.int v12), .val (.int v20)] [])) _
          refine XS.iloadN X0.here hx rfl (hb hby dB_79) rfl ?_
          show Steps p.tables e below (s₁.setTop (mkF m 80 #[.val (.int p1), .val (.int v1), .val (.int v12), .val (.int v20)] [(.int v20)])) _
          exact k_)
      by_cases c80_36 : v20 = (0 : Int32)
      · have pre37 : ∀ t_, Steps p.tables e below (s₁.setTop (mkF m 88 #[.val (.int p1), .val (.int v1), .val (.int v12), .val (.int v20)] [(.int (0 : Int32))])) t_ → Steps p.tables e below (s₁.setTop (entryFrame m #[(.int p1)] 4)) t_ := fun t_ k_ => pre35 t_ (by
            refine XS.ifYes X0.here hx rfl (pc0 := 80) (pc' := 87) rfl (hb hby dB_80) rfl ((if0 _ _).trans (teq c80_36).1) (by decide) (by decide) ?_
            show Steps p.tables e below (s₁.setTop (mkF m 87 #[.val (.int p1), .val (.int v1), .val (.int v12), .val (.int v20)] [])) _
            refine XS.iconst X0.here hx rfl (hb hby dB_87) ?_
            show Steps p.tables e below (s₁.setTop (mkF m 88 #[.val (.int p1), .val (.int v1), .val (.int v12), .val (.int v20)] [(.int (0 : Int32))])) _
            exact k_)
        obtain ⟨fs, hr, hrun, hended, hW, hsame⟩ := X0.leave (v := some (.int (0 : Int32))) (fun h => by rw [Bd.returns] at h; cases h)
        refine ⟨_, _, pre37 _ ?_, hrun, hended, _, _, rfl, ?_, ⟨_, rfl⟩, hW, hsame.mono (by decide) (by decide)⟩
        · exact retN X0 hx (t := .boolean) Bd.returns (by simp) (hb hby dB_88) hr
        · show QB Z p1 h0 n0 _ s₁.heap _
          rw [e0]
          exact ⟨congrArg (fun z => some (Value.int z)) (own_b0 (P := own_E p1) (fun z => by
            rcases z with z | z | z
            · exact (hv1.resolve_left (fun q => absurd (q.1.symm.trans c72_32) (by decide))).2 z
            · exact (hv12.resolve_left (fun q => absurd (q.1.symm.trans c76_34) (by decide))).2 z
            · exact (hv20.resolve_left (fun q => absurd (q.1.symm.trans c80_36) (by decide))).2 z)), N0, rfl⟩
      · have pre38 : ∀ t_, Steps p.tables e below (s₁.setTop (mkF m 88 #[.val (.int p1), .val (.int v1), .val (.int v12), .val (.int v20)] [(.int (1 : Int32))])) t_ → Steps p.tables e below (s₁.setTop (entryFrame m #[(.int p1)] 4)) t_ := fun t_ k_ => pre35 t_ (by
            refine XS.ifNo X0.here hx rfl (hb hby dB_80) rfl ((if0 _ _).trans (feq c80_36).1) ?_
            show Steps p.tables e below (s₁.setTop (mkF m 83 #[.val (.int p1), .val (.int v1), .val (.int v12), .val (.int v20)] [])) _
            refine XS.iconst X0.here hx rfl (hb hby dB_83) ?_
            show Steps p.tables e below (s₁.setTop (mkF m 84 #[.val (.int p1), .val (.int v1), .val (.int v12), .val (.int v20)] [(.int (1 : Int32))])) _
            refine XS.goto X0.here hx rfl (pc0 := 84) (pc' := 88) rfl (hb hby dB_84) (by decide) (by decide) ?_
            show Steps p.tables e below (s₁.setTop (mkF m 88 #[.val (.int p1), .val (.int v1), .val (.int v12), .val (.int v20)] [(.int (1 : Int32))])) _
            exact k_)
        obtain ⟨fs, hr, hrun, hended, hW, hsame⟩ := X0.leave (v := some (.int (1 : Int32))) (fun h => by rw [Bd.returns] at h; cases h)
        refine ⟨_, _, pre38 _ ?_, hrun, hended, _, _, rfl, ?_, ⟨_, rfl⟩, hW, hsame.mono (by decide) (by decide)⟩
        · exact retN X0 hx (t := .boolean) Bd.returns (by simp) (hb hby dB_88) hr
        · show QB Z p1 h0 n0 _ s₁.heap _
          rw [e0]
          exact ⟨congrArg (fun z => some (Value.int z)) (own_b1 (P := own_E p1) (Or.inr (Or.inr ((hv20.resolve_right (fun q => c80_36 q.1)).2)))), N0, rfl⟩
    · have pre39 : ∀ t_, Steps p.tables e below (s₁.setTop (mkF m 88 #[.val (.int p1), .val (.int v1), .val (.int v12), .val (.int v20)] [(.int (1 : Int32))])) t_ → Steps p.tables e below (s₁.setTop (entryFrame m #[(.int p1)] 4)) t_ := fun t_ k_ => pre33 t_ (by
          refine XS.ifYes X0.here hx rfl (pc0 := 76) (pc' := 83) rfl (hb hby dB_76) rfl ((if0 _ _).trans (feq c76_34).2) (by decide) (by decide) ?_
          show Steps p.tables e below (s₁.setTop (mkF m 83 #[.val (.int p1), .val (.int v1), .val (.int v12), .val (.int v20)] [])) _
          refine XS.iconst X0.here hx rfl (hb hby dB_83) ?_
          show Steps p.tables e below (s₁.setTop (mkF m 84 #[.val (.int p1), .val (.int v1), .val (.int v12), .val (.int v20)] [(.int (1 : Int32))])) _
          refine XS.goto X0.here hx rfl (pc0 := 84) (pc' := 88) rfl (hb hby dB_84) (by decide) (by decide) ?_
          show Steps p.tables e below (s₁.setTop (mkF m 88 #[.val (.int p1), .val (.int v1), .val (.int v12), .val (.int v20)] [(.int (1 : Int32))])) _
          exact k_)
      obtain ⟨fs, hr, hrun, hended, hW, hsame⟩ := X0.leave (v := some (.int (1 : Int32))) (fun h => by rw [Bd.returns] at h; cases h)
      refine ⟨_, _, pre39 _ ?_, hrun, hended, _, _, rfl, ?_, ⟨_, rfl⟩, hW, hsame.mono (by decide) (by decide)⟩
      · exact retN X0 hx (t := .boolean) Bd.returns (by simp) (hb hby dB_88) hr
      · show QB Z p1 h0 n0 _ s₁.heap _
        rw [e0]
        exact ⟨congrArg (fun z => some (Value.int z)) (own_b1 (P := own_E p1) (Or.inr (Or.inl (hv12.resolve_right (fun q => c76_34 q.1)).2))), N0, rfl⟩
  · have pre40 : ∀ t_, Steps p.tables e below (s₁.setTop (mkF m 88 #[.val (.int p1), .val (.int v1), .val (.int v12), .val (.int v20)] [(.int (1 : Int32))])) t_ → Steps p.tables e below (s₁.setTop (entryFrame m #[(.int p1)] 4)) t_ := fun t_ k_ => pre31 t_ (by
        refine XS.ifYes X0.here hx rfl (pc0 := 72) (pc' := 83) rfl (hb hby dB_72) rfl ((if0 _ _).trans (feq c72_32).2) (by decide) (by decide) ?_
        show Steps p.tables e below (s₁.setTop (mkF m 83 #[.val (.int p1), .val (.int v1), .val (.int v12), .val (.int v20)] [])) _
        refine XS.iconst X0.here hx rfl (hb hby dB_83) ?_
        show Steps p.tables e below (s₁.setTop (mkF m 84 #[.val (.int p1), .val (.int v1), .val (.int v12), .val (.int v20)] [(.int (1 : Int32))])) _
        refine XS.goto X0.here hx rfl (pc0 := 84) (pc' := 88) rfl (hb hby dB_84) (by decide) (by decide) ?_
        show Steps p.tables e below (s₁.setTop (mkF m 88 #[.val (.int p1), .val (.int v1), .val (.int v12), .val (.int v20)] [(.int (1 : Int32))])) _
        exact k_)
    obtain ⟨fs, hr, hrun, hended, hW, hsame⟩ := X0.leave (v := some (.int (1 : Int32))) (fun h => by rw [Bd.returns] at h; cases h)
    refine ⟨_, _, pre40 _ ?_, hrun, hended, _, _, rfl, ?_, ⟨_, rfl⟩, hW, hsame.mono (by decide) (by decide)⟩
    · exact retN X0 hx (t := .boolean) Bd.returns (by simp) (hb hby dB_88) hr
    · show QB Z p1 h0 n0 _ s₁.heap _
      rw [e0]
      exact ⟨congrArg (fun z => some (Value.int z)) (own_b1 (P := own_E p1) (Or.inl (hv1.resolve_right (fun q => c72_32 q.1)).2)), N0, rfl⟩
theorem pd0_0 : parseMethodDescriptor "(I)Z" = some ⟨[.int], some .boolean⟩ := by decide +kernel
theorem pn0 : plainName "com/example/godwit/godwit/XmlCharsIsDiscouragedPinLaw" = true := by first | (simp [plainName, overriddenIn]; done) | decide +kernel
theorem ef0 (m : MethodId) (p0 : Int32) (p1 : Int32) (p2 : Int32) : entryFrame m #[(.int p0), (.int p1), (.int p2)] maxLocals = mkF m 0 #[.val (.int p0), .val (.int p1), .val (.int p2), .unset, .unset, .unset] [] := by first | (simp [entryFrame, mkF, argsToLocals, Value.category, maxLocals]; done) | rfl
def Q0 (Z : State) (p0 : Int32) (p1 : Int32) (p2 : Int32) (h0 : Heap) (n0 : Nat) (v : Option Value) (h : Heap) (L : List Loc) : Prop := v = some (.int 1) ∧ Fr n0 L
set_option maxRecDepth 65536 in
set_option maxHeartbeats 40000000 in
theorem rm0 (l : Launch) (Z : State) (a0 : Array Value) (hw : ∀ d ∈ tables_1, d.before a0 Z = true) (ws : List Jvm.Cond) (p0 : Int32) (p1 : Int32) (p2 : Int32) (h0 : Heap) (n0 : Nat) (Z0 : n0 ≤ h0.size) :
    MetFree l x (head1 (Jvm.Cond.code x code maxLocals ret :: ws) room_1) (fun a U => a = #[(.int p0), (.int p1), (.int p2)] ∧ Z.Warmed39 U.vm ∧ U.heap = h0) (fun _ _ _ _ _ => True) (fun _ U o U' => ∃ v L, o = .returned v ∧ Q0 Z p0 p1 p2 h0 n0 v U'.heap L ∧ FrameEnd U o U' L room_1.cells room_1.slots) := by
  refine MetFree.of_bodySF (plainFor_of_name pn0) hisR ?_
  intro p e s m args below meth c s₁ Bd hml0 hP hK
  obtain ⟨rfl, hZ, hh⟩ := hP
  have hx := Bd.exec
  have hby := Bd.bytes
  have hml : c.maxLocals = 6 := hml0
  have hown : s.vm.findClass "com/example/godwit/godwit/XmlCharsIsDiscouragedPinLaw" = some m.cls := findClass_of_methodNamed Bd.named
  have hnm := (name_of_methodNamed Bd.named Bd.method).1
  have X0 : Stand p l e room_1 s m #[(.int p0), (.int p1), (.int p2)] below meth c s₁ [] 0 0 := Stand.of_body Bd
  have e0 : s₁.heap = h0 := by rw [← hh, Bd.state]; rfl
  have N0 := Fr.nil n0
  have pre0 : ∀ t, Steps p.tables e below (s₁.setTop (mkF m 0 #[.val (.int p0), .val (.int p1), .val (.int p2), .unset, .unset, .unset] [])) t → Steps p.tables e below (s₁.setTop (entryFrame m #[(.int p0), (.int p1), (.int p2)] maxLocals)) t := fun t k => castTop (ef0 m p0 p1 p2) k
  have pre1 : ∀ t_, Steps p.tables e below (s₁.setTop (mkF m 5 #[.val (.int p0), .val (.int p1), .val (.int p2), .val (.int (p0 &&& (3 : Int32))), .unset, .unset] [(.int (p0 &&& (3 : Int32)))])) t_ → Steps p.tables e below (s₁.setTop (entryFrame m #[(.int p0), (.int p1), (.int p2)] maxLocals)) t_ := fun t_ k_ => pre0 t_ (by
      refine XS.iloadN X0.here hx rfl (hb hby at_0) rfl ?_
      show Steps p.tables e below (s₁.setTop (mkF m 1 #[.val (.int p0), .val (.int p1), .val (.int p2), .unset, .unset, .unset] [(.int p0)])) _
      refine XS.iconst X0.here hx rfl (hb hby at_1) ?_
      show Steps p.tables e below (s₁.setTop (mkF m 2 #[.val (.int p0), .val (.int p1), .val (.int p2), .unset, .unset, .unset] [(.int (3 : Int32)), (.int p0)])) _
      refine XS.iand X0.here hx rfl (hb hby at_2) rfl ?_
      show Steps p.tables e below (s₁.setTop (mkF m 3 #[.val (.int p0), .val (.int p1), .val (.int p2), .unset, .unset, .unset] [(.int (p0 &&& (3 : Int32)))])) _
      refine XS.istoreN X0.here hx rfl (hb hby at_3) rfl (l' := #[.val (.int p0), .val (.int p1), .val (.int p2), .val (.int (p0 &&& (3 : Int32))), .unset, .unset]) rfl ?_
      show Steps p.tables e below (s₁.setTop (mkF m 4 #[.val (.int p0), .val (.int p1), .val (.int p2), .val (.int (p0 &&& (3 : Int32))), .unset, .unset] [])) _
      refine XS.iloadN X0.here hx rfl (hb hby at_4) rfl ?_
      show Steps p.tables e below (s₁.setTop (mkF m 5 #[.val (.int p0), .val (.int p1), .val (.int p2), .val (.int (p0 &&& (3 : Int32))), .unset, .unset] [(.int (p0 &&& (3 : Int32)))])) _
      exact k_)
  by_cases c5_2 : (p0 &&& (3 : Int32)) = (0 : Int32)
  · have pre3 : ∀ t_, Steps p.tables e below (s₁.setTop (mkF m 152 #[.val (.int p0), .val (.int p1), .val (.int p2), .val (.int (p0 &&& (3 : Int32))), .val (.int p2), .unset] [(.int p2)])) t_ → Steps p.tables e below (s₁.setTop (entryFrame m #[(.int p0), (.int p1), (.int p2)] maxLocals)) t_ := fun t_ k_ => pre1 t_ (by
        refine XS.ifNo X0.here hx rfl (hb hby at_5) rfl ((if0 _ _).trans (teq c5_2).2) ?_
        show Steps p.tables e below (s₁.setTop (mkF m 8 #[.val (.int p0), .val (.int p1), .val (.int p2), .val (.int (p0 &&& (3 : Int32))), .unset, .unset] [])) _
        refine XS.iloadN X0.here hx rfl (hb hby at_8) rfl ?_
        show Steps p.tables e below (s₁.setTop (mkF m 9 #[.val (.int p0), .val (.int p1), .val (.int p2), .val (.int (p0 &&& (3 : Int32))), .unset, .unset] [(.int p2)])) _
        refine XS.istore X0.here hx rfl (hb hby at_9) rfl (l' := #[.val (.int p0), .val (.int p1), .val (.int p2), .val (.int (p0 &&& (3 : Int32))), .val (.int p2), .unset]) rfl ?_
        show Steps p.tables e below (s₁.setTop (mkF m 11 #[.val (.int p0), .val (.int p1), .val (.int p2), .val (.int (p0 &&& (3 : Int32))), .val (.int p2), .unset] [])) _
        refine XS.goto X0.here hx rfl (pc0 := 11) (pc' := 150) rfl (hb hby at_11) (by decide) (by decide) ?_
        show Steps p.tables e below (s₁.setTop (mkF m 150 #[.val (.int p0), .val (.int p1), .val (.int p2), .val (.int (p0 &&& (3 : Int32))), .val (.int p2), .unset] [])) _
        refine XS.iload X0.here hx rfl (hb hby at_150) rfl ?_
        show Steps p.tables e below (s₁.setTop (mkF m 152 #[.val (.int p0), .val (.int p1), .val (.int p2), .val (.int (p0 &&& (3 : Int32))), .val (.int p2), .unset] [(.int p2)])) _
        exact k_)
    obtain ⟨c4, e_c4⟩ : ∃ z : Int32, z = p2 := ⟨_, rfl⟩
    have pre5 : ∀ t_, Steps p.tables e below (s₁.setTop (mkF m 152 #[.val (.int p0), .val (.int p1), .val (.int c4), .val (.int (p0 &&& (3 : Int32))), .val (.int c4), .unset] [(.int c4)])) t_ → Steps p.tables e below (s₁.setTop (entryFrame m #[(.int p0), (.int p1), (.int p2)] maxLocals)) t_ := by subst e_c4; exact pre3
    obtain ⟨_, _, ⟨T6, L6, k6, n6⟩, -, X6, ⟨Lc6, hQ6, l6, y6, z6⟩, st6⟩ := Jvm.LawKit.callS X0 hx (y := (⟨"com/example/godwit/godwit/XmlChars", "isDiscouraged", "(I)Z"⟩ : MethodName)) hown (mvT hZ (hw _ (List.mem_of_getElem? (i := 0) rfl))) (mvT hZ (hw _ (List.mem_of_getElem? (i := 1) rfl))) (mvT hZ (hw _ (List.mem_of_getElem? (i := 2) rfl))) (mvT hZ (hw _ (List.mem_of_getElem? (i := 3) rfl))) (by decide) (backOf (W := 0) (rmA l Z a0 hw [] c4  h0 n0 Z0) hZ (hw _ (List.mem_of_getElem? (i := 3) rfl)) (hw _ (List.mem_of_getElem? (i := 2) rfl)) (by decide) (by decide)) (g := (mkF m 152 #[.val (.int p0), .val (.int p1), .val (.int c4), .val (.int (p0 &&& (3 : Int32))), .val (.int c4), .unset] [(.int c4)])) rfl (by rw [hml]; rfl) (argsL := [(.int c4)]) (rest := []) (lenOf pd0_0 rfl) rfl (by show 2 * 0 + _ ≤ _; exact Nat.le_of_eq rfl) (hb hby at_152) (fun _ _ => ⟨rfl, e0, (by decide : 0 + 0 ≤ _), (by decide : 0 + 0 ≤ _)⟩)
    dsimp only [Pt.U, Pt.locs, Pt.cells, Pt.slots] at X6 l6 y6 z6 st6 hQ6
    subst l6 y6 z6
    obtain ⟨rfl, N6q, e6⟩ := hQ6
    have N6 := Fr.app N0 N6q
    obtain ⟨_, _, ⟨T7, L7, k7, n7⟩, -, X7, ⟨Lc7, hQ7, l7, y7, z7⟩, st7⟩ := Jvm.LawKit.callS X6 hx (y := (⟨"com/example/godwit/godwit/XmlCharsIsDiscouragedPinLaw", "expected", "(I)Z"⟩ : MethodName)) hown (mvT hZ (hw _ (List.mem_of_getElem? (i := 6) rfl))) (mvT hZ (hw _ (List.mem_of_getElem? (i := 7) rfl))) (mvT hZ (hw _ (List.mem_of_getElem? (i := 8) rfl))) (mvT hZ (hw _ (List.mem_of_getElem? (i := 9) rfl))) (by decide) (backOf (W := 1) (rmB l Z a0 hw [] c4  h0 n0 Z0) hZ (hw _ (List.mem_of_getElem? (i := 9) rfl)) (hw _ (List.mem_of_getElem? (i := 8) rfl)) (by decide) (by decide)) (g := (mkF m 157 #[.val (.int p0), .val (.int p1), .val (.int c4), .val (.int (p0 &&& (3 : Int32))), .val (.int c4), .unset] [(.int c4), (.int (if own_P c4 then 1 else 0 : Int32))])) rfl (by rw [hml]; rfl) (argsL := [(.int c4)]) (rest := [(.int (if own_P c4 then 1 else 0 : Int32))]) (lenOf pd0_0 rfl) rfl (by show 2 * 0 + _ ≤ _; exact Nat.le_of_eq rfl) (hb hby at_157) (fun _ _ => ⟨rfl, e6, (by decide : 0 + 0 ≤ _), (by decide : 0 + 0 ≤ _)⟩)
    dsimp only [Pt.U, Pt.locs, Pt.cells, Pt.slots] at X7 l7 y7 z7 st7 hQ7
    subst l7 y7 z7
    obtain ⟨rfl, N7q, e7⟩ := hQ7
    have N7 := Fr.app N6 N7q
    have pre8 : ∀ t_, Steps p.tables e below (T7.setTop (mkF m 168 #[.val (.int p0), .val (.int p1), .val (.int c4), .val (.int (p0 &&& (3 : Int32))), .val (.int c4), .unset] [(.int (1 : Int32))])) t_ → Steps p.tables e below (s₁.setTop (entryFrame m #[(.int p0), (.int p1), (.int p2)] maxLocals)) t_ := fun t_ k_ => pre5 t_ (by
        refine st6 _ ?_
        show Steps p.tables e below (T6.setTop (mkF m 155 #[.val (.int p0), .val (.int p1), .val (.int c4), .val (.int (p0 &&& (3 : Int32))), .val (.int c4), .unset] [(.int (if own_P c4 then 1 else 0 : Int32))])) _
        refine XS.iload X6.here hx rfl (hb hby at_155) rfl ?_
        show Steps p.tables e below (T6.setTop (mkF m 157 #[.val (.int p0), .val (.int p1), .val (.int c4), .val (.int (p0 &&& (3 : Int32))), .val (.int c4), .unset] [(.int c4), (.int (if own_P c4 then 1 else 0 : Int32))])) _
        refine st7 _ ?_
        show Steps p.tables e below (T7.setTop (mkF m 160 #[.val (.int p0), .val (.int p1), .val (.int c4), .val (.int (p0 &&& (3 : Int32))), .val (.int c4), .unset] [(.int (if own_E c4 then 1 else 0 : Int32)), (.int (if own_P c4 then 1 else 0 : Int32))])) _
        refine XS.icmpNo X7.here hx rfl (hb hby at_160) rfl (teq (by simp only [own_same] : (if own_P c4 then 1 else 0 : Int32) = (if own_E c4 then 1 else 0 : Int32))).2 ?_
        show Steps p.tables e below (T7.setTop (mkF m 163 #[.val (.int p0), .val (.int p1), .val (.int c4), .val (.int (p0 &&& (3 : Int32))), .val (.int c4), .unset] [])) _
        refine XS.iconst X7.here hx rfl (hb hby at_163) ?_
        show Steps p.tables e below (T7.setTop (mkF m 164 #[.val (.int p0), .val (.int p1), .val (.int c4), .val (.int (p0 &&& (3 : Int32))), .val (.int c4), .unset] [(.int (1 : Int32))])) _
        refine XS.goto X7.here hx rfl (pc0 := 164) (pc' := 168) rfl (hb hby at_164) (by decide) (by decide) ?_
        show Steps p.tables e below (T7.setTop (mkF m 168 #[.val (.int p0), .val (.int p1), .val (.int c4), .val (.int (p0 &&& (3 : Int32))), .val (.int c4), .unset] [(.int (1 : Int32))])) _
        exact k_)
    obtain ⟨fs, hr, hrun, hended, hW, hsame⟩ := X7.leave (v := some (.int (1 : Int32))) (fun h => by rw [Bd.returns] at h; cases h)
    refine ⟨_, _, pre8 _ ?_, hrun, hended, _, _, rfl, ?_, ⟨_, rfl⟩, hW, hsame.mono (by decide) (by decide)⟩
    · exact retN X7 hx (t := .boolean) Bd.returns (by simp) (hb hby at_168) hr
    · show Q0 Z p0 p1 p2 h0 n0 _ T7.heap _
      rw [e7]
      exact ⟨rfl, N7⟩
  · have pre9 : ∀ t_, Steps p.tables e below (s₁.setTop (mkF m 16 #[.val (.int p0), .val (.int p1), .val (.int p2), .val (.int (p0 &&& (3 : Int32))), .unset, .unset] [(.int (1 : Int32)), (.int (p0 &&& (3 : Int32)))])) t_ → Steps p.tables e below (s₁.setTop (entryFrame m #[(.int p0), (.int p1), (.int p2)] maxLocals)) t_ := fun t_ k_ => pre1 t_ (by
        refine XS.ifYes X0.here hx rfl (pc0 := 5) (pc' := 14) rfl (hb hby at_5) rfl ((if0 _ _).trans (feq c5_2).2) (by decide) (by decide) ?_
        show Steps p.tables e below (s₁.setTop (mkF m 14 #[.val (.int p0), .val (.int p1), .val (.int p2), .val (.int (p0 &&& (3 : Int32))), .unset, .unset] [])) _
        refine XS.iloadN X0.here hx rfl (hb hby at_14) rfl ?_
        show Steps p.tables e below (s₁.setTop (mkF m 15 #[.val (.int p0), .val (.int p1), .val (.int p2), .val (.int (p0 &&& (3 : Int32))), .unset, .unset] [(.int (p0 &&& (3 : Int32)))])) _
        refine XS.iconst X0.here hx rfl (hb hby at_15) ?_
        show Steps p.tables e below (s₁.setTop (mkF m 16 #[.val (.int p0), .val (.int p1), .val (.int p2), .val (.int (p0 &&& (3 : Int32))), .unset, .unset] [(.int (1 : Int32)), (.int (p0 &&& (3 : Int32)))])) _
        exact k_)
    by_cases c16_10 : (p0 &&& (3 : Int32)) = (1 : Int32)
    · obtain ⟨T11, h11, X11, e11, E11, A11, st11⟩ := oNew X0 hx hZ (hw _ (List.mem_of_getElem? (i := 12) rfl)) e0 (g := (mkF m 21 #[.val (.int p0), .val (.int p1), .val (.int p2), .val (.int (p0 &&& (3 : Int32))), .unset, .unset] [(.int (10 : Int32))])) rfl (hb hby at_21) rfl (k := 10) (cap := 10) rfl (by decide) (by decide) (by decide) (by decide)
      obtain ⟨arr, g11⟩ : ∃ z, z = h0.size := ⟨_, rfl⟩
      rw [← g11] at A11 st11
      have gg11 : n0 ≤ arr := Nat.le_trans Z0 (Nat.le_of_eq g11.symm)
      have Z11 : n0 ≤ h11.size := Nat.le_trans Z0 E11.1
      have B11 : OArr Z h11 arr .int 10 (fun _ => .int (0 : Int32)) := A11
      obtain ⟨T12, h12, X12, e12, W12, A12, st12⟩ := oStI X11 hx hZ e11 B11 (k := 0) rfl (by decide) (g := (mkF m 27 #[.val (.int p0), .val (.int p1), .val (.int p2), .val (.int (p0 &&& (3 : Int32))), .unset, .unset] [(.int (127 : Int32)), (.int (0 : Int32)), (.ref arr), (.ref arr)])) rfl rfl (hb hby at_27)
      have N12 := Fr.snoc X12 N0 gg11
      have Z12 : n0 ≤ h12.size := Nat.le_trans Z11 (Keep.of_wr W12).1
      obtain ⟨T13, h13, X13, e13, W13, A13, st13⟩ := oStI X12 hx hZ e12 A12 (k := 1) rfl (by decide) (g := (mkF m 33 #[.val (.int p0), .val (.int p1), .val (.int p2), .val (.int (p0 &&& (3 : Int32))), .unset, .unset] [(.int (133 : Int32)), (.int (1 : Int32)), (.ref arr), (.ref arr)])) rfl rfl (hb hby at_33)
      have N13 := Fr.snoc X13 N12 gg11
      have Z13 : n0 ≤ h13.size := Nat.le_trans Z12 (Keep.of_wr W13).1
      obtain ⟨T14, h14, X14, e14, W14, A14, st14⟩ := oStI X13 hx hZ e13 A13 (k := 2) rfl (by decide) (g := (mkF m 39 #[.val (.int p0), .val (.int p1), .val (.int p2), .val (.int (p0 &&& (3 : Int32))), .unset, .unset] [(.int (159 : Int32)), (.int (2 : Int32)), (.ref arr), (.ref arr)])) rfl rfl (hb hby at_39)
      have N14 := Fr.snoc X14 N13 gg11
      have Z14 : n0 ≤ h14.size := Nat.le_trans Z13 (Keep.of_wr W14).1
      obtain ⟨T15, h15, X15, e15, W15, A15, st15⟩ := oStI X14 hx hZ e14 A14 (k := 3) rfl (by decide) (g := (mkF m 44 #[.val (.int p0), .val (.int p1), .val (.int p2), .val (.int (p0 &&& (3 : Int32))), .unset, .unset] [(.int (64976 : Int32)), (.int (3 : Int32)), (.ref arr), (.ref arr)])) rfl rfl (hb hby at_44)
      have N15 := Fr.snoc X15 N14 gg11
      have Z15 : n0 ≤ h15.size := Nat.le_trans Z14 (Keep.of_wr W15).1
      obtain ⟨T16, h16, X16, e16, W16, A16, st16⟩ := oStI X15 hx hZ e15 A15 (k := 4) rfl (by decide) (g := (mkF m 49 #[.val (.int p0), .val (.int p1), .val (.int p2), .val (.int (p0 &&& (3 : Int32))), .unset, .unset] [(.int (65007 : Int32)), (.int (4 : Int32)), (.ref arr), (.ref arr)])) rfl rfl (hb hby at_49)
      have N16 := Fr.snoc X16 N15 gg11
      have Z16 : n0 ≤ h16.size := Nat.le_trans Z15 (Keep.of_wr W16).1
      obtain ⟨T17, h17, X17, e17, W17, A17, st17⟩ := oStI X16 hx hZ e16 A16 (k := 5) rfl (by decide) (g := (mkF m 54 #[.val (.int p0), .val (.int p1), .val (.int p2), .val (.int (p0 &&& (3 : Int32))), .unset, .unset] [(.int (131070 : Int32)), (.int (5 : Int32)), (.ref arr), (.ref arr)])) rfl rfl (hb hby at_54)
      have N17 := Fr.snoc X17 N16 gg11
      have Z17 : n0 ≤ h17.size := Nat.le_trans Z16 (Keep.of_wr W17).1
      obtain ⟨T18, h18, X18, e18, W18, A18, st18⟩ := oStI X17 hx hZ e17 A17 (k := 6) rfl (by decide) (g := (mkF m 60 #[.val (.int p0), .val (.int p1), .val (.int p2), .val (.int (p0 &&& (3 : Int32))), .unset, .unset] [(.int (1114111 : Int32)), (.int (6 : Int32)), (.ref arr), (.ref arr)])) rfl rfl (hb hby at_60)
      have N18 := Fr.snoc X18 N17 gg11
      have Z18 : n0 ≤ h18.size := Nat.le_trans Z17 (Keep.of_wr W18).1
      obtain ⟨T19, h19, X19, e19, W19, A19, st19⟩ := oStI X18 hx hZ e18 A18 (k := 7) rfl (by decide) (g := (mkF m 66 #[.val (.int p0), .val (.int p1), .val (.int p2), .val (.int (p0 &&& (3 : Int32))), .unset, .unset] [(.int (65534 : Int32)), (.int (7 : Int32)), (.ref arr), (.ref arr)])) rfl rfl (hb hby at_66)
      have N19 := Fr.snoc X19 N18 gg11
      have Z19 : n0 ≤ h19.size := Nat.le_trans Z18 (Keep.of_wr W19).1
      obtain ⟨T20, h20, X20, e20, W20, A20, st20⟩ := oStI X19 hx hZ e19 A19 (k := 8) rfl (by decide) (g := (mkF m 72 #[.val (.int p0), .val (.int p1), .val (.int p2), .val (.int (p0 &&& (3 : Int32))), .unset, .unset] [(.int (1114112 : Int32)), (.int (8 : Int32)), (.ref arr), (.ref arr)])) rfl rfl (hb hby at_72)
      have N20 := Fr.snoc X20 N19 gg11
      have Z20 : n0 ≤ h20.size := Nat.le_trans Z19 (Keep.of_wr W20).1
      obtain ⟨T21, h21, X21, e21, W21, A21, st21⟩ := oStI X20 hx hZ e20 A20 (k := 9) rfl (by decide) (g := (mkF m 77 #[.val (.int p0), .val (.int p1), .val (.int p2), .val (.int (p0 &&& (3 : Int32))), .unset, .unset] [(.int (0 : Int32)), (.int (9 : Int32)), (.ref arr), (.ref arr)])) rfl rfl (hb hby at_77)
      have N21 := Fr.snoc X21 N20 gg11
      have Z21 : n0 ≤ h21.size := Nat.le_trans Z20 (Keep.of_wr W21).1
      have pre22 : ∀ t_, Steps p.tables e below (T21.setTop (mkF m 88 #[.val (.int p0), .val (.int p1), .val (.int p2), .val (.int (p0 &&& (3 : Int32))), .unset, .val (.ref arr)] [(.int (((p0.toUInt32 >>> ((2 : Int32) &&& 31).toUInt32).toInt32) % (10 : Int32))), (.ref arr)])) t_ → Steps p.tables e below (s₁.setTop (entryFrame m #[(.int p0), (.int p1), (.int p2)] maxLocals)) t_ := fun t_ k_ => pre9 t_ (by
          refine XS.icmpNo X0.here hx rfl (hb hby at_16) rfl (teq c16_10).2 ?_
          show Steps p.tables e below (s₁.setTop (mkF m 19 #[.val (.int p0), .val (.int p1), .val (.int p2), .val (.int (p0 &&& (3 : Int32))), .unset, .unset] [])) _
          refine XS.bipush X0.here hx rfl (hb hby at_19) ?_
          show Steps p.tables e below (s₁.setTop (mkF m 21 #[.val (.int p0), .val (.int p1), .val (.int p2), .val (.int (p0 &&& (3 : Int32))), .unset, .unset] [(.int (10 : Int32))])) _
          refine st11 _ ?_
          show Steps p.tables e below (T11.setTop (mkF m 23 #[.val (.int p0), .val (.int p1), .val (.int p2), .val (.int (p0 &&& (3 : Int32))), .unset, .unset] [(.ref arr)])) _
          refine XS.dup X11.here hx rfl (hb hby at_23) rfl rfl ?_
          show Steps p.tables e below (T11.setTop (mkF m 24 #[.val (.int p0), .val (.int p1), .val (.int p2), .val (.int (p0 &&& (3 : Int32))), .unset, .unset] [(.ref arr), (.ref arr)])) _
          refine XS.iconst X11.here hx rfl (hb hby at_24) ?_
          show Steps p.tables e below (T11.setTop (mkF m 25 #[.val (.int p0), .val (.int p1), .val (.int p2), .val (.int (p0 &&& (3 : Int32))), .unset, .unset] [(.int (0 : Int32)), (.ref arr), (.ref arr)])) _
          refine XS.bipush X11.here hx rfl (hb hby at_25) ?_
          show Steps p.tables e below (T11.setTop (mkF m 27 #[.val (.int p0), .val (.int p1), .val (.int p2), .val (.int (p0 &&& (3 : Int32))), .unset, .unset] [(.int (127 : Int32)), (.int (0 : Int32)), (.ref arr), (.ref arr)])) _
          refine st12 _ ?_
          show Steps p.tables e below (T12.setTop (mkF m 28 #[.val (.int p0), .val (.int p1), .val (.int p2), .val (.int (p0 &&& (3 : Int32))), .unset, .unset] [(.ref arr)])) _
          refine XS.dup X12.here hx rfl (hb hby at_28) rfl rfl ?_
          show Steps p.tables e below (T12.setTop (mkF m 29 #[.val (.int p0), .val (.int p1), .val (.int p2), .val (.int (p0 &&& (3 : Int32))), .unset, .unset] [(.ref arr), (.ref arr)])) _
          refine XS.iconst X12.here hx rfl (hb hby at_29) ?_
          show Steps p.tables e below (T12.setTop (mkF m 30 #[.val (.int p0), .val (.int p1), .val (.int p2), .val (.int (p0 &&& (3 : Int32))), .unset, .unset] [(.int (1 : Int32)), (.ref arr), (.ref arr)])) _
          refine XS.sipush X12.here hx rfl (hb hby at_30) ?_
          show Steps p.tables e below (T12.setTop (mkF m 33 #[.val (.int p0), .val (.int p1), .val (.int p2), .val (.int (p0 &&& (3 : Int32))), .unset, .unset] [(.int (133 : Int32)), (.int (1 : Int32)), (.ref arr), (.ref arr)])) _
          refine st13 _ ?_
          show Steps p.tables e below (T13.setTop (mkF m 34 #[.val (.int p0), .val (.int p1), .val (.int p2), .val (.int (p0 &&& (3 : Int32))), .unset, .unset] [(.ref arr)])) _
          refine XS.dup X13.here hx rfl (hb hby at_34) rfl rfl ?_
          show Steps p.tables e below (T13.setTop (mkF m 35 #[.val (.int p0), .val (.int p1), .val (.int p2), .val (.int (p0 &&& (3 : Int32))), .unset, .unset] [(.ref arr), (.ref arr)])) _
          refine XS.iconst X13.here hx rfl (hb hby at_35) ?_
          show Steps p.tables e below (T13.setTop (mkF m 36 #[.val (.int p0), .val (.int p1), .val (.int p2), .val (.int (p0 &&& (3 : Int32))), .unset, .unset] [(.int (2 : Int32)), (.ref arr), (.ref arr)])) _
          refine XS.sipush X13.here hx rfl (hb hby at_36) ?_
          show Steps p.tables e below (T13.setTop (mkF m 39 #[.val (.int p0), .val (.int p1), .val (.int p2), .val (.int (p0 &&& (3 : Int32))), .unset, .unset] [(.int (159 : Int32)), (.int (2 : Int32)), (.ref arr), (.ref arr)])) _
          refine st14 _ ?_
          show Steps p.tables e below (T14.setTop (mkF m 40 #[.val (.int p0), .val (.int p1), .val (.int p2), .val (.int (p0 &&& (3 : Int32))), .unset, .unset] [(.ref arr)])) _
          refine XS.dup X14.here hx rfl (hb hby at_40) rfl rfl ?_
          show Steps p.tables e below (T14.setTop (mkF m 41 #[.val (.int p0), .val (.int p1), .val (.int p2), .val (.int (p0 &&& (3 : Int32))), .unset, .unset] [(.ref arr), (.ref arr)])) _
          refine XS.iconst X14.here hx rfl (hb hby at_41) ?_
          show Steps p.tables e below (T14.setTop (mkF m 42 #[.val (.int p0), .val (.int p1), .val (.int p2), .val (.int (p0 &&& (3 : Int32))), .unset, .unset] [(.int (3 : Int32)), (.ref arr), (.ref arr)])) _
          refine X14.ldcInt hx hown (mvT hZ (hw _ (List.mem_of_getElem? (i := 10) rfl))) (g := (mkF m 42 #[.val (.int p0), .val (.int p1), .val (.int p2), .val (.int (p0 &&& (3 : Int32))), .unset, .unset] [(.int (3 : Int32)), (.ref arr), (.ref arr)])) rfl (hb hby at_42) _ ?_
          show Steps p.tables e below (T14.setTop (mkF m 44 #[.val (.int p0), .val (.int p1), .val (.int p2), .val (.int (p0 &&& (3 : Int32))), .unset, .unset] [(.int (64976 : Int32)), (.int (3 : Int32)), (.ref arr), (.ref arr)])) _
          refine st15 _ ?_
          show Steps p.tables e below (T15.setTop (mkF m 45 #[.val (.int p0), .val (.int p1), .val (.int p2), .val (.int (p0 &&& (3 : Int32))), .unset, .unset] [(.ref arr)])) _
          refine XS.dup X15.here hx rfl (hb hby at_45) rfl rfl ?_
          show Steps p.tables e below (T15.setTop (mkF m 46 #[.val (.int p0), .val (.int p1), .val (.int p2), .val (.int (p0 &&& (3 : Int32))), .unset, .unset] [(.ref arr), (.ref arr)])) _
          refine XS.iconst X15.here hx rfl (hb hby at_46) ?_
          show Steps p.tables e below (T15.setTop (mkF m 47 #[.val (.int p0), .val (.int p1), .val (.int p2), .val (.int (p0 &&& (3 : Int32))), .unset, .unset] [(.int (4 : Int32)), (.ref arr), (.ref arr)])) _
          refine X15.ldcInt hx hown (mvT hZ (hw _ (List.mem_of_getElem? (i := 13) rfl))) (g := (mkF m 47 #[.val (.int p0), .val (.int p1), .val (.int p2), .val (.int (p0 &&& (3 : Int32))), .unset, .unset] [(.int (4 : Int32)), (.ref arr), (.ref arr)])) rfl (hb hby at_47) _ ?_
          show Steps p.tables e below (T15.setTop (mkF m 49 #[.val (.int p0), .val (.int p1), .val (.int p2), .val (.int (p0 &&& (3 : Int32))), .unset, .unset] [(.int (65007 : Int32)), (.int (4 : Int32)), (.ref arr), (.ref arr)])) _
          refine st16 _ ?_
          show Steps p.tables e below (T16.setTop (mkF m 50 #[.val (.int p0), .val (.int p1), .val (.int p2), .val (.int (p0 &&& (3 : Int32))), .unset, .unset] [(.ref arr)])) _
          refine XS.dup X16.here hx rfl (hb hby at_50) rfl rfl ?_
          show Steps p.tables e below (T16.setTop (mkF m 51 #[.val (.int p0), .val (.int p1), .val (.int p2), .val (.int (p0 &&& (3 : Int32))), .unset, .unset] [(.ref arr), (.ref arr)])) _
          refine XS.iconst X16.here hx rfl (hb hby at_51) ?_
          show Steps p.tables e below (T16.setTop (mkF m 52 #[.val (.int p0), .val (.int p1), .val (.int p2), .val (.int (p0 &&& (3 : Int32))), .unset, .unset] [(.int (5 : Int32)), (.ref arr), (.ref arr)])) _
          refine X16.ldcInt hx hown (mvT hZ (hw _ (List.mem_of_getElem? (i := 14) rfl))) (g := (mkF m 52 #[.val (.int p0), .val (.int p1), .val (.int p2), .val (.int (p0 &&& (3 : Int32))), .unset, .unset] [(.int (5 : Int32)), (.ref arr), (.ref arr)])) rfl (hb hby at_52) _ ?_
          show Steps p.tables e below (T16.setTop (mkF m 54 #[.val (.int p0), .val (.int p1), .val (.int p2), .val (.int (p0 &&& (3 : Int32))), .unset, .unset] [(.int (131070 : Int32)), (.int (5 : Int32)), (.ref arr), (.ref arr)])) _
          refine st17 _ ?_
          show Steps p.tables e below (T17.setTop (mkF m 55 #[.val (.int p0), .val (.int p1), .val (.int p2), .val (.int (p0 &&& (3 : Int32))), .unset, .unset] [(.ref arr)])) _
          refine XS.dup X17.here hx rfl (hb hby at_55) rfl rfl ?_
          show Steps p.tables e below (T17.setTop (mkF m 56 #[.val (.int p0), .val (.int p1), .val (.int p2), .val (.int (p0 &&& (3 : Int32))), .unset, .unset] [(.ref arr), (.ref arr)])) _
          refine XS.bipush X17.here hx rfl (hb hby at_56) ?_
          show Steps p.tables e below (T17.setTop (mkF m 58 #[.val (.int p0), .val (.int p1), .val (.int p2), .val (.int (p0 &&& (3 : Int32))), .unset, .unset] [(.int (6 : Int32)), (.ref arr), (.ref arr)])) _
          refine X17.ldcInt hx hown (mvT hZ (hw _ (List.mem_of_getElem? (i := 15) rfl))) (g := (mkF m 58 #[.val (.int p0), .val (.int p1), .val (.int p2), .val (.int (p0 &&& (3 : Int32))), .unset, .unset] [(.int (6 : Int32)), (.ref arr), (.ref arr)])) rfl (hb hby at_58) _ ?_
          show Steps p.tables e below (T17.setTop (mkF m 60 #[.val (.int p0), .val (.int p1), .val (.int p2), .val (.int (p0 &&& (3 : Int32))), .unset, .unset] [(.int (1114111 : Int32)), (.int (6 : Int32)), (.ref arr), (.ref arr)])) _
          refine st18 _ ?_
          show Steps p.tables e below (T18.setTop (mkF m 61 #[.val (.int p0), .val (.int p1), .val (.int p2), .val (.int (p0 &&& (3 : Int32))), .unset, .unset] [(.ref arr)])) _
          refine XS.dup X18.here hx rfl (hb hby at_61) rfl rfl ?_
          show Steps p.tables e below (T18.setTop (mkF m 62 #[.val (.int p0), .val (.int p1), .val (.int p2), .val (.int (p0 &&& (3 : Int32))), .unset, .unset] [(.ref arr), (.ref arr)])) _
          refine XS.bipush X18.here hx rfl (hb hby at_62) ?_
          show Steps p.tables e below (T18.setTop (mkF m 64 #[.val (.int p0), .val (.int p1), .val (.int p2), .val (.int (p0 &&& (3 : Int32))), .unset, .unset] [(.int (7 : Int32)), (.ref arr), (.ref arr)])) _
          refine X18.ldcInt hx hown (mvT hZ (hw _ (List.mem_of_getElem? (i := 16) rfl))) (g := (mkF m 64 #[.val (.int p0), .val (.int p1), .val (.int p2), .val (.int (p0 &&& (3 : Int32))), .unset, .unset] [(.int (7 : Int32)), (.ref arr), (.ref arr)])) rfl (hb hby at_64) _ ?_
          show Steps p.tables e below (T18.setTop (mkF m 66 #[.val (.int p0), .val (.int p1), .val (.int p2), .val (.int (p0 &&& (3 : Int32))), .unset, .unset] [(.int (65534 : Int32)), (.int (7 : Int32)), (.ref arr), (.ref arr)])) _
          refine st19 _ ?_
          show Steps p.tables e below (T19.setTop (mkF m 67 #[.val (.int p0), .val (.int p1), .val (.int p2), .val (.int (p0 &&& (3 : Int32))), .unset, .unset] [(.ref arr)])) _
          refine XS.dup X19.here hx rfl (hb hby at_67) rfl rfl ?_
          show Steps p.tables e below (T19.setTop (mkF m 68 #[.val (.int p0), .val (.int p1), .val (.int p2), .val (.int (p0 &&& (3 : Int32))), .unset, .unset] [(.ref arr), (.ref arr)])) _
          refine XS.bipush X19.here hx rfl (hb hby at_68) ?_
          show Steps p.tables e below (T19.setTop (mkF m 70 #[.val (.int p0), .val (.int p1), .val (.int p2), .val (.int (p0 &&& (3 : Int32))), .unset, .unset] [(.int (8 : Int32)), (.ref arr), (.ref arr)])) _
          refine X19.ldcInt hx hown (mvT hZ (hw _ (List.mem_of_getElem? (i := 17) rfl))) (g := (mkF m 70 #[.val (.int p0), .val (.int p1), .val (.int p2), .val (.int (p0 &&& (3 : Int32))), .unset, .unset] [(.int (8 : Int32)), (.ref arr), (.ref arr)])) rfl (hb hby at_70) _ ?_
          show Steps p.tables e below (T19.setTop (mkF m 72 #[.val (.int p0), .val (.int p1), .val (.int p2), .val (.int (p0 &&& (3 : Int32))), .unset, .unset] [(.int (1114112 : Int32)), (.int (8 : Int32)), (.ref arr), (.ref arr)])) _
          refine st20 _ ?_
          show Steps p.tables e below (T20.setTop (mkF m 73 #[.val (.int p0), .val (.int p1), .val (.int p2), .val (.int (p0 &&& (3 : Int32))), .unset, .unset] [(.ref arr)])) _
          refine XS.dup X20.here hx rfl (hb hby at_73) rfl rfl ?_
          show Steps p.tables e below (T20.setTop (mkF m 74 #[.val (.int p0), .val (.int p1), .val (.int p2), .val (.int (p0 &&& (3 : Int32))), .unset, .unset] [(.ref arr), (.ref arr)])) _
          refine XS.bipush X20.here hx rfl (hb hby at_74) ?_
          show Steps p.tables e below (T20.setTop (mkF m 76 #[.val (.int p0), .val (.int p1), .val (.int p2), .val (.int (p0 &&& (3 : Int32))), .unset, .unset] [(.int (9 : Int32)), (.ref arr), (.ref arr)])) _
          refine XS.iconst X20.here hx rfl (hb hby at_76) ?_
          show Steps p.tables e below (T20.setTop (mkF m 77 #[.val (.int p0), .val (.int p1), .val (.int p2), .val (.int (p0 &&& (3 : Int32))), .unset, .unset] [(.int (0 : Int32)), (.int (9 : Int32)), (.ref arr), (.ref arr)])) _
          refine st21 _ ?_
          show Steps p.tables e below (T21.setTop (mkF m 78 #[.val (.int p0), .val (.int p1), .val (.int p2), .val (.int (p0 &&& (3 : Int32))), .unset, .unset] [(.ref arr)])) _
          refine XS.astore X21.here hx rfl (hb hby at_78) rfl rfl (l' := #[.val (.int p0), .val (.int p1), .val (.int p2), .val (.int (p0 &&& (3 : Int32))), .unset, .val (.ref arr)]) rfl ?_
          show Steps p.tables e below (T21.setTop (mkF m 80 #[.val (.int p0), .val (.int p1), .val (.int p2), .val (.int (p0 &&& (3 : Int32))), .unset, .val (.ref arr)] [])) _
          refine XS.aload X21.here hx rfl (hb hby at_80) rfl rfl ?_
          show Steps p.tables e below (T21.setTop (mkF m 82 #[.val (.int p0), .val (.int p1), .val (.int p2), .val (.int (p0 &&& (3 : Int32))), .unset, .val (.ref arr)] [(.ref arr)])) _
          refine XS.iloadN X21.here hx rfl (hb hby at_82) rfl ?_
          show Steps p.tables e below (T21.setTop (mkF m 83 #[.val (.int p0), .val (.int p1), .val (.int p2), .val (.int (p0 &&& (3 : Int32))), .unset, .val (.ref arr)] [(.int p0), (.ref arr)])) _
          refine XS.iconst X21.here hx rfl (hb hby at_83) ?_
          show Steps p.tables e below (T21.setTop (mkF m 84 #[.val (.int p0), .val (.int p1), .val (.int p2), .val (.int (p0 &&& (3 : Int32))), .unset, .val (.ref arr)] [(.int (2 : Int32)), (.int p0), (.ref arr)])) _
          refine XS.iushr X21.here hx rfl (hb hby at_84) rfl ?_
          show Steps p.tables e below (T21.setTop (mkF m 85 #[.val (.int p0), .val (.int p1), .val (.int p2), .val (.int (p0 &&& (3 : Int32))), .unset, .val (.ref arr)] [(.int ((p0.toUInt32 >>> ((2 : Int32) &&& 31).toUInt32).toInt32)), (.ref arr)])) _
          refine XS.bipush X21.here hx rfl (hb hby at_85) ?_
          show Steps p.tables e below (T21.setTop (mkF m 87 #[.val (.int p0), .val (.int p1), .val (.int p2), .val (.int (p0 &&& (3 : Int32))), .unset, .val (.ref arr)] [(.int (10 : Int32)), (.int ((p0.toUInt32 >>> ((2 : Int32) &&& 31).toUInt32).toInt32)), (.ref arr)])) _
          refine iremM X21 hx rfl (hb hby at_87) rfl (by decide) ?_
          show Steps p.tables e below (T21.setTop (mkF m 88 #[.val (.int p0), .val (.int p1), .val (.int p2), .val (.int (p0 &&& (3 : Int32))), .unset, .val (.ref arr)] [(.int (((p0.toUInt32 >>> ((2 : Int32) &&& 31).toUInt32).toInt32) % (10 : Int32))), (.ref arr)])) _
          exact k_)
      obtain ⟨kk, hk1, hk2⟩ := own_rem ((p0.toUInt32 >>> ((2 : Int32) &&& 31).toUInt32).toInt32) (own_ushr p0).1
      have ai0 : own_AI (fun _ => .int (0 : Int32)) := fun _ => ⟨_, rfl⟩
      obtain ⟨rv, hrv⟩ := ((((((((((ai0.upd 0 (127 : Int32)).upd 1 (133 : Int32)).upd 2 (159 : Int32)).upd 3 (64976 : Int32)).upd 4 (65007 : Int32)).upd 5 (131070 : Int32)).upd 6 (1114111 : Int32)).upd 7 (65534 : Int32)).upd 8 (1114112 : Int32)).upd 9 (0 : Int32)) kk
      have pre23 : ∀ t_, Steps p.tables e below (T21.setTop (mkF m 152 #[.val (.int p0), .val (.int p1), .val (.int p2), .val (.int (p0 &&& (3 : Int32))), .val (.int (rv + (p1 % (9 : Int32)))), .val (.ref arr)] [(.int (rv + (p1 % (9 : Int32))))])) t_ → Steps p.tables e below (s₁.setTop (entryFrame m #[(.int p0), (.int p1), (.int p2)] maxLocals)) t_ := fun t_ k_ => pre22 t_ (by
          refine oLdI X21 hx hZ e21 A21 (k := kk) hk2 hk1 (v := rv) hrv (g := (mkF m 88 #[.val (.int p0), .val (.int p1), .val (.int p2), .val (.int (p0 &&& (3 : Int32))), .unset, .val (.ref arr)] [(.int (((p0.toUInt32 >>> ((2 : Int32) &&& 31).toUInt32).toInt32) % (10 : Int32))), (.ref arr)])) rfl rfl (hb hby at_88) _ ?_
          show Steps p.tables e below (T21.setTop (mkF m 89 #[.val (.int p0), .val (.int p1), .val (.int p2), .val (.int (p0 &&& (3 : Int32))), .unset, .val (.ref arr)] [(.int rv)])) _
          refine XS.iloadN X21.here hx rfl (hb hby at_89) rfl ?_
          show Steps p.tables e below (T21.setTop (mkF m 90 #[.val (.int p0), .val (.int p1), .val (.int p2), .val (.int (p0 &&& (3 : Int32))), .unset, .val (.ref arr)] [(.int p1), (.int rv)])) _
          refine XS.bipush X21.here hx rfl (hb hby at_90) ?_
          show Steps p.tables e below (T21.setTop (mkF m 92 #[.val (.int p0), .val (.int p1), .val (.int p2), .val (.int (p0 &&& (3 : Int32))), .unset, .val (.ref arr)] [(.int (9 : Int32)), (.int p1), (.int rv)])) _
          refine iremM X21 hx rfl (hb hby at_92) rfl (by decide) ?_
          show Steps p.tables e below (T21.setTop (mkF m 93 #[.val (.int p0), .val (.int p1), .val (.int p2), .val (.int (p0 &&& (3 : Int32))), .unset, .val (.ref arr)] [(.int (p1 % (9 : Int32))), (.int rv)])) _
          refine XS.iadd X21.here hx rfl (hb hby at_93) rfl ?_
          show Steps p.tables e below (T21.setTop (mkF m 94 #[.val (.int p0), .val (.int p1), .val (.int p2), .val (.int (p0 &&& (3 : Int32))), .unset, .val (.ref arr)] [(.int (rv + (p1 % (9 : Int32))))])) _
          refine XS.istore X21.here hx rfl (hb hby at_94) rfl (l' := #[.val (.int p0), .val (.int p1), .val (.int p2), .val (.int (p0 &&& (3 : Int32))), .val (.int (rv + (p1 % (9 : Int32)))), .val (.ref arr)]) rfl ?_
          show Steps p.tables e below (T21.setTop (mkF m 96 #[.val (.int p0), .val (.int p1), .val (.int p2), .val (.int (p0 &&& (3 : Int32))), .val (.int (rv + (p1 % (9 : Int32)))), .val (.ref arr)] [])) _
          refine XS.goto X21.here hx rfl (pc0 := 96) (pc' := 150) rfl (hb hby at_96) (by decide) (by decide) ?_
          show Steps p.tables e below (T21.setTop (mkF m 150 #[.val (.int p0), .val (.int p1), .val (.int p2), .val (.int (p0 &&& (3 : Int32))), .val (.int (rv + (p1 % (9 : Int32)))), .val (.ref arr)] [])) _
          refine XS.iload X21.here hx rfl (hb hby at_150) rfl ?_
          show Steps p.tables e below (T21.setTop (mkF m 152 #[.val (.int p0), .val (.int p1), .val (.int p2), .val (.int (p0 &&& (3 : Int32))), .val (.int (rv + (p1 % (9 : Int32)))), .val (.ref arr)] [(.int (rv + (p1 % (9 : Int32))))])) _
          exact k_)
      obtain ⟨c24, e_c24⟩ : ∃ z : Int32, z = (rv + (p1 % (9 : Int32))) := ⟨_, rfl⟩
      have pre25 : ∀ t_, Steps p.tables e below (T21.setTop (mkF m 152 #[.val (.int p0), .val (.int p1), .val (.int p2), .val (.int (p0 &&& (3 : Int32))), .val (.int c24), .val (.ref arr)] [(.int c24)])) t_ → Steps p.tables e below (s₁.setTop (entryFrame m #[(.int p0), (.int p1), (.int p2)] maxLocals)) t_ := by subst e_c24; exact pre23
      obtain ⟨_, _, ⟨T26, L26, k26, n26⟩, -, X26, ⟨Lc26, hQ26, l26, y26, z26⟩, st26⟩ := Jvm.LawKit.callS X21 hx (y := (⟨"com/example/godwit/godwit/XmlChars", "isDiscouraged", "(I)Z"⟩ : MethodName)) hown (mvT hZ (hw _ (List.mem_of_getElem? (i := 0) rfl))) (mvT hZ (hw _ (List.mem_of_getElem? (i := 1) rfl))) (mvT hZ (hw _ (List.mem_of_getElem? (i := 2) rfl))) (mvT hZ (hw _ (List.mem_of_getElem? (i := 3) rfl))) (by decide) (backOf (W := 0) (rmA l Z a0 hw [] c24  h21 n0 Z21) hZ (hw _ (List.mem_of_getElem? (i := 3) rfl)) (hw _ (List.mem_of_getElem? (i := 2) rfl)) (by decide) (by decide)) (g := (mkF m 152 #[.val (.int p0), .val (.int p1), .val (.int p2), .val (.int (p0 &&& (3 : Int32))), .val (.int c24), .val (.ref arr)] [(.int c24)])) rfl (by rw [hml]; rfl) (argsL := [(.int c24)]) (rest := []) (lenOf pd0_0 rfl) rfl (by show 2 * 0 + _ ≤ _; exact Nat.le_of_eq rfl) (hb hby at_152) (fun _ _ => ⟨rfl, e21, (by decide : 1 + 0 ≤ _), (by decide : 10 + 0 ≤ _)⟩)
      dsimp only [Pt.U, Pt.locs, Pt.cells, Pt.slots] at X26 l26 y26 z26 st26 hQ26
      subst l26 y26 z26
      obtain ⟨rfl, N26q, e26⟩ := hQ26
      have N26 := Fr.app N21 N26q
      obtain ⟨_, _, ⟨T27, L27, k27, n27⟩, -, X27, ⟨Lc27, hQ27, l27, y27, z27⟩, st27⟩ := Jvm.LawKit.callS X26 hx (y := (⟨"com/example/godwit/godwit/XmlCharsIsDiscouragedPinLaw", "expected", "(I)Z"⟩ : MethodName)) hown (mvT hZ (hw _ (List.mem_of_getElem? (i := 6) rfl))) (mvT hZ (hw _ (List.mem_of_getElem? (i := 7) rfl))) (mvT hZ (hw _ (List.mem_of_getElem? (i := 8) rfl))) (mvT hZ (hw _ (List.mem_of_getElem? (i := 9) rfl))) (by decide) (backOf (W := 1) (rmB l Z a0 hw [] c24  h21 n0 Z21) hZ (hw _ (List.mem_of_getElem? (i := 9) rfl)) (hw _ (List.mem_of_getElem? (i := 8) rfl)) (by decide) (by decide)) (g := (mkF m 157 #[.val (.int p0), .val (.int p1), .val (.int p2), .val (.int (p0 &&& (3 : Int32))), .val (.int c24), .val (.ref arr)] [(.int c24), (.int (if own_P c24 then 1 else 0 : Int32))])) rfl (by rw [hml]; rfl) (argsL := [(.int c24)]) (rest := [(.int (if own_P c24 then 1 else 0 : Int32))]) (lenOf pd0_0 rfl) rfl (by show 2 * 0 + _ ≤ _; exact Nat.le_of_eq rfl) (hb hby at_157) (fun _ _ => ⟨rfl, e26, (by decide : 1 + 0 ≤ _), (by decide : 10 + 0 ≤ _)⟩)
      dsimp only [Pt.U, Pt.locs, Pt.cells, Pt.slots] at X27 l27 y27 z27 st27 hQ27
      subst l27 y27 z27
      obtain ⟨rfl, N27q, e27⟩ := hQ27
      have N27 := Fr.app N26 N27q
      have pre28 : ∀ t_, Steps p.tables e below (T27.setTop (mkF m 168 #[.val (.int p0), .val (.int p1), .val (.int p2), .val (.int (p0 &&& (3 : Int32))), .val (.int c24), .val (.ref arr)] [(.int (1 : Int32))])) t_ → Steps p.tables e below (s₁.setTop (entryFrame m #[(.int p0), (.int p1), (.int p2)] maxLocals)) t_ := fun t_ k_ => pre25 t_ (by
          refine st26 _ ?_
          show Steps p.tables e below (T26.setTop (mkF m 155 #[.val (.int p0), .val (.int p1), .val (.int p2), .val (.int (p0 &&& (3 : Int32))), .val (.int c24), .val (.ref arr)] [(.int (if own_P c24 then 1 else 0 : Int32))])) _
          refine XS.iload X26.here hx rfl (hb hby at_155) rfl ?_
          show Steps p.tables e below (T26.setTop (mkF m 157 #[.val (.int p0), .val (.int p1), .val (.int p2), .val (.int (p0 &&& (3 : Int32))), .val (.int c24), .val (.ref arr)] [(.int c24), (.int (if own_P c24 then 1 else 0 : Int32))])) _
          refine st27 _ ?_
          show Steps p.tables e below (T27.setTop (mkF m 160 #[.val (.int p0), .val (.int p1), .val (.int p2), .val (.int (p0 &&& (3 : Int32))), .val (.int c24), .val (.ref arr)] [(.int (if own_E c24 then 1 else 0 : Int32)), (.int (if own_P c24 then 1 else 0 : Int32))])) _
          refine XS.icmpNo X27.here hx rfl (hb hby at_160) rfl (teq (by simp only [own_same] : (if own_P c24 then 1 else 0 : Int32) = (if own_E c24 then 1 else 0 : Int32))).2 ?_
          show Steps p.tables e below (T27.setTop (mkF m 163 #[.val (.int p0), .val (.int p1), .val (.int p2), .val (.int (p0 &&& (3 : Int32))), .val (.int c24), .val (.ref arr)] [])) _
          refine XS.iconst X27.here hx rfl (hb hby at_163) ?_
          show Steps p.tables e below (T27.setTop (mkF m 164 #[.val (.int p0), .val (.int p1), .val (.int p2), .val (.int (p0 &&& (3 : Int32))), .val (.int c24), .val (.ref arr)] [(.int (1 : Int32))])) _
          refine XS.goto X27.here hx rfl (pc0 := 164) (pc' := 168) rfl (hb hby at_164) (by decide) (by decide) ?_
          show Steps p.tables e below (T27.setTop (mkF m 168 #[.val (.int p0), .val (.int p1), .val (.int p2), .val (.int (p0 &&& (3 : Int32))), .val (.int c24), .val (.ref arr)] [(.int (1 : Int32))])) _
          exact k_)
      obtain ⟨fs, hr, hrun, hended, hW, hsame⟩ := X27.leave (v := some (.int (1 : Int32))) (fun h => by rw [Bd.returns] at h; cases h)
      refine ⟨_, _, pre28 _ ?_, hrun, hended, _, _, rfl, ?_, ⟨_, rfl⟩, hW, hsame.mono (by decide) (by decide)⟩
      · exact retN X27 hx (t := .boolean) Bd.returns (by simp) (hb hby at_168) hr
      · show Q0 Z p0 p1 p2 h0 n0 _ T27.heap _
        rw [e27]
        exact ⟨rfl, N27⟩
    · have pre29 : ∀ t_, Steps p.tables e below (s₁.setTop (mkF m 101 #[.val (.int p0), .val (.int p1), .val (.int p2), .val (.int (p0 &&& (3 : Int32))), .unset, .unset] [(.int (2 : Int32)), (.int (p0 &&& (3 : Int32)))])) t_ → Steps p.tables e below (s₁.setTop (entryFrame m #[(.int p0), (.int p1), (.int p2)] maxLocals)) t_ := fun t_ k_ => pre9 t_ (by
          refine XS.icmpYes X0.here hx rfl (pc0 := 16) (pc' := 99) rfl (hb hby at_16) rfl (feq c16_10).2 (by decide) (by decide) ?_
          show Steps p.tables e below (s₁.setTop (mkF m 99 #[.val (.int p0), .val (.int p1), .val (.int p2), .val (.int (p0 &&& (3 : Int32))), .unset, .unset] [])) _
          refine XS.iloadN X0.here hx rfl (hb hby at_99) rfl ?_
          show Steps p.tables e below (s₁.setTop (mkF m 100 #[.val (.int p0), .val (.int p1), .val (.int p2), .val (.int (p0 &&& (3 : Int32))), .unset, .unset] [(.int (p0 &&& (3 : Int32)))])) _
          refine XS.iconst X0.here hx rfl (hb hby at_100) ?_
          show Steps p.tables e below (s₁.setTop (mkF m 101 #[.val (.int p0), .val (.int p1), .val (.int p2), .val (.int (p0 &&& (3 : Int32))), .unset, .unset] [(.int (2 : Int32)), (.int (p0 &&& (3 : Int32)))])) _
          exact k_)
      by_cases c101_30 : (p0 &&& (3 : Int32)) = (2 : Int32)
      · have pre31 : ∀ t_, Steps p.tables e below (s₁.setTop (mkF m 152 #[.val (.int p0), .val (.int p1), .val (.int p2), .val (.int (p0 &&& (3 : Int32))), .val (.int (((p2 &&& (31 : Int32)) <<< ((16 : Int32) &&& 31)) ||| ((65520 : Int32) ||| (p1 &&& (15 : Int32))))), .unset] [(.int (((p2 &&& (31 : Int32)) <<< ((16 : Int32) &&& 31)) ||| ((65520 : Int32) ||| (p1 &&& (15 : Int32)))))])) t_ → Steps p.tables e below (s₁.setTop (entryFrame m #[(.int p0), (.int p1), (.int p2)] maxLocals)) t_ := fun t_ k_ => pre29 t_ (by
            refine XS.icmpNo X0.here hx rfl (hb hby at_101) rfl (teq c101_30).2 ?_
            show Steps p.tables e below (s₁.setTop (mkF m 104 #[.val (.int p0), .val (.int p1), .val (.int p2), .val (.int (p0 &&& (3 : Int32))), .unset, .unset] [])) _
            refine XS.iloadN X0.here hx rfl (hb hby at_104) rfl ?_
            show Steps p.tables e below (s₁.setTop (mkF m 105 #[.val (.int p0), .val (.int p1), .val (.int p2), .val (.int (p0 &&& (3 : Int32))), .unset, .unset] [(.int p2)])) _
            refine XS.bipush X0.here hx rfl (hb hby at_105) ?_
            show Steps p.tables e below (s₁.setTop (mkF m 107 #[.val (.int p0), .val (.int p1), .val (.int p2), .val (.int (p0 &&& (3 : Int32))), .unset, .unset] [(.int (31 : Int32)), (.int p2)])) _
            refine XS.iand X0.here hx rfl (hb hby at_107) rfl ?_
            show Steps p.tables e below (s₁.setTop (mkF m 108 #[.val (.int p0), .val (.int p1), .val (.int p2), .val (.int (p0 &&& (3 : Int32))), .unset, .unset] [(.int (p2 &&& (31 : Int32)))])) _
            refine XS.bipush X0.here hx rfl (hb hby at_108) ?_
            show Steps p.tables e below (s₁.setTop (mkF m 110 #[.val (.int p0), .val (.int p1), .val (.int p2), .val (.int (p0 &&& (3 : Int32))), .unset, .unset] [(.int (16 : Int32)), (.int (p2 &&& (31 : Int32)))])) _
            refine XS.ishl X0.here hx rfl (hb hby at_110) rfl ?_
            show Steps p.tables e below (s₁.setTop (mkF m 111 #[.val (.int p0), .val (.int p1), .val (.int p2), .val (.int (p0 &&& (3 : Int32))), .unset, .unset] [(.int ((p2 &&& (31 : Int32)) <<< ((16 : Int32) &&& 31)))])) _
            refine X0.ldcInt hx hown (mvT hZ (hw _ (List.mem_of_getElem? (i := 20) rfl))) (g := (mkF m 111 #[.val (.int p0), .val (.int p1), .val (.int p2), .val (.int (p0 &&& (3 : Int32))), .unset, .unset] [(.int ((p2 &&& (31 : Int32)) <<< ((16 : Int32) &&& 31)))])) rfl (hb hby at_111) _ ?_
            show Steps p.tables e below (s₁.setTop (mkF m 113 #[.val (.int p0), .val (.int p1), .val (.int p2), .val (.int (p0 &&& (3 : Int32))), .unset, .unset] [(.int (65520 : Int32)), (.int ((p2 &&& (31 : Int32)) <<< ((16 : Int32) &&& 31)))])) _
            refine XS.iloadN X0.here hx rfl (hb hby at_113) rfl ?_
            show Steps p.tables e below (s₁.setTop (mkF m 114 #[.val (.int p0), .val (.int p1), .val (.int p2), .val (.int (p0 &&& (3 : Int32))), .unset, .unset] [(.int p1), (.int (65520 : Int32)), (.int ((p2 &&& (31 : Int32)) <<< ((16 : Int32) &&& 31)))])) _
            refine XS.bipush X0.here hx rfl (hb hby at_114) ?_
            show Steps p.tables e below (s₁.setTop (mkF m 116 #[.val (.int p0), .val (.int p1), .val (.int p2), .val (.int (p0 &&& (3 : Int32))), .unset, .unset] [(.int (15 : Int32)), (.int p1), (.int (65520 : Int32)), (.int ((p2 &&& (31 : Int32)) <<< ((16 : Int32) &&& 31)))])) _
            refine XS.iand X0.here hx rfl (hb hby at_116) rfl ?_
            show Steps p.tables e below (s₁.setTop (mkF m 117 #[.val (.int p0), .val (.int p1), .val (.int p2), .val (.int (p0 &&& (3 : Int32))), .unset, .unset] [(.int (p1 &&& (15 : Int32))), (.int (65520 : Int32)), (.int ((p2 &&& (31 : Int32)) <<< ((16 : Int32) &&& 31)))])) _
            refine XS.ior X0.here hx rfl (hb hby at_117) rfl ?_
            show Steps p.tables e below (s₁.setTop (mkF m 118 #[.val (.int p0), .val (.int p1), .val (.int p2), .val (.int (p0 &&& (3 : Int32))), .unset, .unset] [(.int ((65520 : Int32) ||| (p1 &&& (15 : Int32)))), (.int ((p2 &&& (31 : Int32)) <<< ((16 : Int32) &&& 31)))])) _
            refine XS.ior X0.here hx rfl (hb hby at_118) rfl ?_
            show Steps p.tables e below (s₁.setTop (mkF m 119 #[.val (.int p0), .val (.int p1), .val (.int p2), .val (.int (p0 &&& (3 : Int32))), .unset, .unset] [(.int (((p2 &&& (31 : Int32)) <<< ((16 : Int32) &&& 31)) ||| ((65520 : Int32) ||| (p1 &&& (15 : Int32)))))])) _
            refine XS.istore X0.here hx rfl (hb hby at_119) rfl (l' := #[.val (.int p0), .val (.int p1), .val (.int p2), .val (.int (p0 &&& (3 : Int32))), .val (.int (((p2 &&& (31 : Int32)) <<< ((16 : Int32) &&& 31)) ||| ((65520 : Int32) ||| (p1 &&& (15 : Int32))))), .unset]) rfl ?_
            show Steps p.tables e below (s₁.setTop (mkF m 121 #[.val (.int p0), .val (.int p1), .val (.int p2), .val (.int (p0 &&& (3 : Int32))), .val (.int (((p2 &&& (31 : Int32)) <<< ((16 : Int32) &&& 31)) ||| ((65520 : Int32) ||| (p1 &&& (15 : Int32))))), .unset] [])) _
            refine XS.goto X0.here hx rfl (pc0 := 121) (pc' := 150) rfl (hb hby at_121) (by decide) (by decide) ?_
            show Steps p.tables e below (s₁.setTop (mkF m 150 #[.val (.int p0), .val (.int p1), .val (.int p2), .val (.int (p0 &&& (3 : Int32))), .val (.int (((p2 &&& (31 : Int32)) <<< ((16 : Int32) &&& 31)) ||| ((65520 : Int32) ||| (p1 &&& (15 : Int32))))), .unset] [])) _
            refine XS.iload X0.here hx rfl (hb hby at_150) rfl ?_
            show Steps p.tables e below (s₁.setTop (mkF m 152 #[.val (.int p0), .val (.int p1), .val (.int p2), .val (.int (p0 &&& (3 : Int32))), .val (.int (((p2 &&& (31 : Int32)) <<< ((16 : Int32) &&& 31)) ||| ((65520 : Int32) ||| (p1 &&& (15 : Int32))))), .unset] [(.int (((p2 &&& (31 : Int32)) <<< ((16 : Int32) &&& 31)) ||| ((65520 : Int32) ||| (p1 &&& (15 : Int32)))))])) _
            exact k_)
        obtain ⟨c32, e_c32⟩ : ∃ z : Int32, z = (((p2 &&& (31 : Int32)) <<< ((16 : Int32) &&& 31)) ||| ((65520 : Int32) ||| (p1 &&& (15 : Int32)))) := ⟨_, rfl⟩
        have pre33 : ∀ t_, Steps p.tables e below (s₁.setTop (mkF m 152 #[.val (.int p0), .val (.int p1), .val (.int p2), .val (.int (p0 &&& (3 : Int32))), .val (.int c32), .unset] [(.int c32)])) t_ → Steps p.tables e below (s₁.setTop (entryFrame m #[(.int p0), (.int p1), (.int p2)] maxLocals)) t_ := by subst e_c32; exact pre31
        obtain ⟨_, _, ⟨T34, L34, k34, n34⟩, -, X34, ⟨Lc34, hQ34, l34, y34, z34⟩, st34⟩ := Jvm.LawKit.callS X0 hx (y := (⟨"com/example/godwit/godwit/XmlChars", "isDiscouraged", "(I)Z"⟩ : MethodName)) hown (mvT hZ (hw _ (List.mem_of_getElem? (i := 0) rfl))) (mvT hZ (hw _ (List.mem_of_getElem? (i := 1) rfl))) (mvT hZ (hw _ (List.mem_of_getElem? (i := 2) rfl))) (mvT hZ (hw _ (List.mem_of_getElem? (i := 3) rfl))) (by decide) (backOf (W := 0) (rmA l Z a0 hw [] c32  h0 n0 Z0) hZ (hw _ (List.mem_of_getElem? (i := 3) rfl)) (hw _ (List.mem_of_getElem? (i := 2) rfl)) (by decide) (by decide)) (g := (mkF m 152 #[.val (.int p0), .val (.int p1), .val (.int p2), .val (.int (p0 &&& (3 : Int32))), .val (.int c32), .unset] [(.int c32)])) rfl (by rw [hml]; rfl) (argsL := [(.int c32)]) (rest := []) (lenOf pd0_0 rfl) rfl (by show 2 * 0 + _ ≤ _; exact Nat.le_of_eq rfl) (hb hby at_152) (fun _ _ => ⟨rfl, e0, (by decide : 0 + 0 ≤ _), (by decide : 0 + 0 ≤ _)⟩)
        dsimp only [Pt.U, Pt.locs, Pt.cells, Pt.slots] at X34 l34 y34 z34 st34 hQ34
        subst l34 y34 z34
        obtain ⟨rfl, N34q, e34⟩ := hQ34
        have N34 := Fr.app N0 N34q
        obtain ⟨_, _, ⟨T35, L35, k35, n35⟩, -, X35, ⟨Lc35, hQ35, l35, y35, z35⟩, st35⟩ := Jvm.LawKit.callS X34 hx (y := (⟨"com/example/godwit/godwit/XmlCharsIsDiscouragedPinLaw", "expected", "(I)Z"⟩ : MethodName)) hown (mvT hZ (hw _ (List.mem_of_getElem? (i := 6) rfl))) (mvT hZ (hw _ (List.mem_of_getElem? (i := 7) rfl))) (mvT hZ (hw _ (List.mem_of_getElem? (i := 8) rfl))) (mvT hZ (hw _ (List.mem_of_getElem? (i := 9) rfl))) (by decide) (backOf (W := 1) (rmB l Z a0 hw [] c32  h0 n0 Z0) hZ (hw _ (List.mem_of_getElem? (i := 9) rfl)) (hw _ (List.mem_of_getElem? (i := 8) rfl)) (by decide) (by decide)) (g := (mkF m 157 #[.val (.int p0), .val (.int p1), .val (.int p2), .val (.int (p0 &&& (3 : Int32))), .val (.int c32), .unset] [(.int c32), (.int (if own_P c32 then 1 else 0 : Int32))])) rfl (by rw [hml]; rfl) (argsL := [(.int c32)]) (rest := [(.int (if own_P c32 then 1 else 0 : Int32))]) (lenOf pd0_0 rfl) rfl (by show 2 * 0 + _ ≤ _; exact Nat.le_of_eq rfl) (hb hby at_157) (fun _ _ => ⟨rfl, e34, (by decide : 0 + 0 ≤ _), (by decide : 0 + 0 ≤ _)⟩)
        dsimp only [Pt.U, Pt.locs, Pt.cells, Pt.slots] at X35 l35 y35 z35 st35 hQ35
        subst l35 y35 z35
        obtain ⟨rfl, N35q, e35⟩ := hQ35
        have N35 := Fr.app N34 N35q
        have pre36 : ∀ t_, Steps p.tables e below (T35.setTop (mkF m 168 #[.val (.int p0), .val (.int p1), .val (.int p2), .val (.int (p0 &&& (3 : Int32))), .val (.int c32), .unset] [(.int (1 : Int32))])) t_ → Steps p.tables e below (s₁.setTop (entryFrame m #[(.int p0), (.int p1), (.int p2)] maxLocals)) t_ := fun t_ k_ => pre33 t_ (by
            refine st34 _ ?_
            show Steps p.tables e below (T34.setTop (mkF m 155 #[.val (.int p0), .val (.int p1), .val (.int p2), .val (.int (p0 &&& (3 : Int32))), .val (.int c32), .unset] [(.int (if own_P c32 then 1 else 0 : Int32))])) _
            refine XS.iload X34.here hx rfl (hb hby at_155) rfl ?_
            show Steps p.tables e below (T34.setTop (mkF m 157 #[.val (.int p0), .val (.int p1), .val (.int p2), .val (.int (p0 &&& (3 : Int32))), .val (.int c32), .unset] [(.int c32), (.int (if own_P c32 then 1 else 0 : Int32))])) _
            refine st35 _ ?_
            show Steps p.tables e below (T35.setTop (mkF m 160 #[.val (.int p0), .val (.int p1), .val (.int p2), .val (.int (p0 &&& (3 : Int32))), .val (.int c32), .unset] [(.int (if own_E c32 then 1 else 0 : Int32)), (.int (if own_P c32 then 1 else 0 : Int32))])) _
            refine XS.icmpNo X35.here hx rfl (hb hby at_160) rfl (teq (by simp only [own_same] : (if own_P c32 then 1 else 0 : Int32) = (if own_E c32 then 1 else 0 : Int32))).2 ?_
            show Steps p.tables e below (T35.setTop (mkF m 163 #[.val (.int p0), .val (.int p1), .val (.int p2), .val (.int (p0 &&& (3 : Int32))), .val (.int c32), .unset] [])) _
            refine XS.iconst X35.here hx rfl (hb hby at_163) ?_
            show Steps p.tables e below (T35.setTop (mkF m 164 #[.val (.int p0), .val (.int p1), .val (.int p2), .val (.int (p0 &&& (3 : Int32))), .val (.int c32), .unset] [(.int (1 : Int32))])) _
            refine XS.goto X35.here hx rfl (pc0 := 164) (pc' := 168) rfl (hb hby at_164) (by decide) (by decide) ?_
            show Steps p.tables e below (T35.setTop (mkF m 168 #[.val (.int p0), .val (.int p1), .val (.int p2), .val (.int (p0 &&& (3 : Int32))), .val (.int c32), .unset] [(.int (1 : Int32))])) _
            exact k_)
        obtain ⟨fs, hr, hrun, hended, hW, hsame⟩ := X35.leave (v := some (.int (1 : Int32))) (fun h => by rw [Bd.returns] at h; cases h)
        refine ⟨_, _, pre36 _ ?_, hrun, hended, _, _, rfl, ?_, ⟨_, rfl⟩, hW, hsame.mono (by decide) (by decide)⟩
        · exact retN X35 hx (t := .boolean) Bd.returns (by simp) (hb hby at_168) hr
        · show Q0 Z p0 p1 p2 h0 n0 _ T35.heap _
          rw [e35]
          exact ⟨rfl, N35⟩
      · have pre37 : ∀ t_, Steps p.tables e below (s₁.setTop (mkF m 127 #[.val (.int p0), .val (.int p1), .val (.int p2), .val (.int (p0 &&& (3 : Int32))), .unset, .unset] [(.int (p2 &&& (1 : Int32)))])) t_ → Steps p.tables e below (s₁.setTop (entryFrame m #[(.int p0), (.int p1), (.int p2)] maxLocals)) t_ := fun t_ k_ => pre29 t_ (by
            refine XS.icmpYes X0.here hx rfl (pc0 := 101) (pc' := 124) rfl (hb hby at_101) rfl (feq c101_30).2 (by decide) (by decide) ?_
            show Steps p.tables e below (s₁.setTop (mkF m 124 #[.val (.int p0), .val (.int p1), .val (.int p2), .val (.int (p0 &&& (3 : Int32))), .unset, .unset] [])) _
            refine XS.iloadN X0.here hx rfl (hb hby at_124) rfl ?_
            show Steps p.tables e below (s₁.setTop (mkF m 125 #[.val (.int p0), .val (.int p1), .val (.int p2), .val (.int (p0 &&& (3 : Int32))), .unset, .unset] [(.int p2)])) _
            refine XS.iconst X0.here hx rfl (hb hby at_125) ?_
            show Steps p.tables e below (s₁.setTop (mkF m 126 #[.val (.int p0), .val (.int p1), .val (.int p2), .val (.int (p0 &&& (3 : Int32))), .unset, .unset] [(.int (1 : Int32)), (.int p2)])) _
            refine XS.iand X0.here hx rfl (hb hby at_126) rfl ?_
            show Steps p.tables e below (s₁.setTop (mkF m 127 #[.val (.int p0), .val (.int p1), .val (.int p2), .val (.int (p0 &&& (3 : Int32))), .unset, .unset] [(.int (p2 &&& (1 : Int32)))])) _
            exact k_)
        by_cases c127_38 : (p2 &&& (1 : Int32)) = (0 : Int32)
        · have pre39 : ∀ t_, Steps p.tables e below (s₁.setTop (mkF m 152 #[.val (.int p0), .val (.int p1), .val (.int p2), .val (.int (p0 &&& (3 : Int32))), .val (.int ((96 : Int32) + (p1 &&& (127 : Int32)))), .unset] [(.int ((96 : Int32) + (p1 &&& (127 : Int32))))])) t_ → Steps p.tables e below (s₁.setTop (entryFrame m #[(.int p0), (.int p1), (.int p2)] maxLocals)) t_ := fun t_ k_ => pre37 t_ (by
              refine XS.ifNo X0.here hx rfl (hb hby at_127) rfl ((if0 _ _).trans (teq c127_38).2) ?_
              show Steps p.tables e below (s₁.setTop (mkF m 130 #[.val (.int p0), .val (.int p1), .val (.int p2), .val (.int (p0 &&& (3 : Int32))), .unset, .unset] [])) _
              refine XS.bipush X0.here hx rfl (hb hby at_130) ?_
              show Steps p.tables e below (s₁.setTop (mkF m 132 #[.val (.int p0), .val (.int p1), .val (.int p2), .val (.int (p0 &&& (3 : Int32))), .unset, .unset] [(.int (96 : Int32))])) _
              refine XS.iloadN X0.here hx rfl (hb hby at_132) rfl ?_
              show Steps p.tables e below (s₁.setTop (mkF m 133 #[.val (.int p0), .val (.int p1), .val (.int p2), .val (.int (p0 &&& (3 : Int32))), .unset, .unset] [(.int p1), (.int (96 : Int32))])) _
              refine XS.bipush X0.here hx rfl (hb hby at_133) ?_
              show Steps p.tables e below (s₁.setTop (mkF m 135 #[.val (.int p0), .val (.int p1), .val (.int p2), .val (.int (p0 &&& (3 : Int32))), .unset, .unset] [(.int (127 : Int32)), (.int p1), (.int (96 : Int32))])) _
              refine XS.iand X0.here hx rfl (hb hby at_135) rfl ?_
              show Steps p.tables e below (s₁.setTop (mkF m 136 #[.val (.int p0), .val (.int p1), .val (.int p2), .val (.int (p0 &&& (3 : Int32))), .unset, .unset] [(.int (p1 &&& (127 : Int32))), (.int (96 : Int32))])) _
              refine XS.iadd X0.here hx rfl (hb hby at_136) rfl ?_
              show Steps p.tables e below (s₁.setTop (mkF m 137 #[.val (.int p0), .val (.int p1), .val (.int p2), .val (.int (p0 &&& (3 : Int32))), .unset, .unset] [(.int ((96 : Int32) + (p1 &&& (127 : Int32))))])) _
              refine XS.goto X0.here hx rfl (pc0 := 137) (pc' := 148) rfl (hb hby at_137) (by decide) (by decide) ?_
              show Steps p.tables e below (s₁.setTop (mkF m 148 #[.val (.int p0), .val (.int p1), .val (.int p2), .val (.int (p0 &&& (3 : Int32))), .unset, .unset] [(.int ((96 : Int32) + (p1 &&& (127 : Int32))))])) _
              refine XS.istore X0.here hx rfl (hb hby at_148) rfl (l' := #[.val (.int p0), .val (.int p1), .val (.int p2), .val (.int (p0 &&& (3 : Int32))), .val (.int ((96 : Int32) + (p1 &&& (127 : Int32)))), .unset]) rfl ?_
              show Steps p.tables e below (s₁.setTop (mkF m 150 #[.val (.int p0), .val (.int p1), .val (.int p2), .val (.int (p0 &&& (3 : Int32))), .val (.int ((96 : Int32) + (p1 &&& (127 : Int32)))), .unset] [])) _
              refine XS.iload X0.here hx rfl (hb hby at_150) rfl ?_
              show Steps p.tables e below (s₁.setTop (mkF m 152 #[.val (.int p0), .val (.int p1), .val (.int p2), .val (.int (p0 &&& (3 : Int32))), .val (.int ((96 : Int32) + (p1 &&& (127 : Int32)))), .unset] [(.int ((96 : Int32) + (p1 &&& (127 : Int32))))])) _
              exact k_)
          obtain ⟨c40, e_c40⟩ : ∃ z : Int32, z = ((96 : Int32) + (p1 &&& (127 : Int32))) := ⟨_, rfl⟩
          have pre41 : ∀ t_, Steps p.tables e below (s₁.setTop (mkF m 152 #[.val (.int p0), .val (.int p1), .val (.int p2), .val (.int (p0 &&& (3 : Int32))), .val (.int c40), .unset] [(.int c40)])) t_ → Steps p.tables e below (s₁.setTop (entryFrame m #[(.int p0), (.int p1), (.int p2)] maxLocals)) t_ := by subst e_c40; exact pre39
          obtain ⟨_, _, ⟨T42, L42, k42, n42⟩, -, X42, ⟨Lc42, hQ42, l42, y42, z42⟩, st42⟩ := Jvm.LawKit.callS X0 hx (y := (⟨"com/example/godwit/godwit/XmlChars", "isDiscouraged", "(I)Z"⟩ : MethodName)) hown (mvT hZ (hw _ (List.mem_of_getElem? (i := 0) rfl))) (mvT hZ (hw _ (List.mem_of_getElem? (i := 1) rfl))) (mvT hZ (hw _ (List.mem_of_getElem? (i := 2) rfl))) (mvT hZ (hw _ (List.mem_of_getElem? (i := 3) rfl))) (by decide) (backOf (W := 0) (rmA l Z a0 hw [] c40  h0 n0 Z0) hZ (hw _ (List.mem_of_getElem? (i := 3) rfl)) (hw _ (List.mem_of_getElem? (i := 2) rfl)) (by decide) (by decide)) (g := (mkF m 152 #[.val (.int p0), .val (.int p1), .val (.int p2), .val (.int (p0 &&& (3 : Int32))), .val (.int c40), .unset] [(.int c40)])) rfl (by rw [hml]; rfl) (argsL := [(.int c40)]) (rest := []) (lenOf pd0_0 rfl) rfl (by show 2 * 0 + _ ≤ _; exact Nat.le_of_eq rfl) (hb hby at_152) (fun _ _ => ⟨rfl, e0, (by decide : 0 + 0 ≤ _), (by decide : 0 + 0 ≤ _)⟩)
          dsimp only [Pt.U, Pt.locs, Pt.cells, Pt.slots] at X42 l42 y42 z42 st42 hQ42
          subst l42 y42 z42
          obtain ⟨rfl, N42q, e42⟩ := hQ42
          have N42 := Fr.app N0 N42q
          obtain ⟨_, _, ⟨T43, L43, k43, n43⟩, -, X43, ⟨Lc43, hQ43, l43, y43, z43⟩, st43⟩ := Jvm.LawKit.callS X42 hx (y := (⟨"com/example/godwit/godwit/XmlCharsIsDiscouragedPinLaw", "expected", "(I)Z"⟩ : MethodName)) hown (mvT hZ (hw _ (List.mem_of_getElem? (i := 6) rfl))) (mvT hZ (hw _ (List.mem_of_getElem? (i := 7) rfl))) (mvT hZ (hw _ (List.mem_of_getElem? (i := 8) rfl))) (mvT hZ (hw _ (List.mem_of_getElem? (i := 9) rfl))) (by decide) (backOf (W := 1) (rmB l Z a0 hw [] c40  h0 n0 Z0) hZ (hw _ (List.mem_of_getElem? (i := 9) rfl)) (hw _ (List.mem_of_getElem? (i := 8) rfl)) (by decide) (by decide)) (g := (mkF m 157 #[.val (.int p0), .val (.int p1), .val (.int p2), .val (.int (p0 &&& (3 : Int32))), .val (.int c40), .unset] [(.int c40), (.int (if own_P c40 then 1 else 0 : Int32))])) rfl (by rw [hml]; rfl) (argsL := [(.int c40)]) (rest := [(.int (if own_P c40 then 1 else 0 : Int32))]) (lenOf pd0_0 rfl) rfl (by show 2 * 0 + _ ≤ _; exact Nat.le_of_eq rfl) (hb hby at_157) (fun _ _ => ⟨rfl, e42, (by decide : 0 + 0 ≤ _), (by decide : 0 + 0 ≤ _)⟩)
          dsimp only [Pt.U, Pt.locs, Pt.cells, Pt.slots] at X43 l43 y43 z43 st43 hQ43
          subst l43 y43 z43
          obtain ⟨rfl, N43q, e43⟩ := hQ43
          have N43 := Fr.app N42 N43q
          have pre44 : ∀ t_, Steps p.tables e below (T43.setTop (mkF m 168 #[.val (.int p0), .val (.int p1), .val (.int p2), .val (.int (p0 &&& (3 : Int32))), .val (.int c40), .unset] [(.int (1 : Int32))])) t_ → Steps p.tables e below (s₁.setTop (entryFrame m #[(.int p0), (.int p1), (.int p2)] maxLocals)) t_ := fun t_ k_ => pre41 t_ (by
              refine st42 _ ?_
              show Steps p.tables e below (T42.setTop (mkF m 155 #[.val (.int p0), .val (.int p1), .val (.int p2), .val (.int (p0 &&& (3 : Int32))), .val (.int c40), .unset] [(.int (if own_P c40 then 1 else 0 : Int32))])) _
              refine XS.iload X42.here hx rfl (hb hby at_155) rfl ?_
              show Steps p.tables e below (T42.setTop (mkF m 157 #[.val (.int p0), .val (.int p1), .val (.int p2), .val (.int (p0 &&& (3 : Int32))), .val (.int c40), .unset] [(.int c40), (.int (if own_P c40 then 1 else 0 : Int32))])) _
              refine st43 _ ?_
              show Steps p.tables e below (T43.setTop (mkF m 160 #[.val (.int p0), .val (.int p1), .val (.int p2), .val (.int (p0 &&& (3 : Int32))), .val (.int c40), .unset] [(.int (if own_E c40 then 1 else 0 : Int32)), (.int (if own_P c40 then 1 else 0 : Int32))])) _
              refine XS.icmpNo X43.here hx rfl (hb hby at_160) rfl (teq (by simp only [own_same] : (if own_P c40 then 1 else 0 : Int32) = (if own_E c40 then 1 else 0 : Int32))).2 ?_
              show Steps p.tables e below (T43.setTop (mkF m 163 #[.val (.int p0), .val (.int p1), .val (.int p2), .val (.int (p0 &&& (3 : Int32))), .val (.int c40), .unset] [])) _
              refine XS.iconst X43.here hx rfl (hb hby at_163) ?_
              show Steps p.tables e below (T43.setTop (mkF m 164 #[.val (.int p0), .val (.int p1), .val (.int p2), .val (.int (p0 &&& (3 : Int32))), .val (.int c40), .unset] [(.int (1 : Int32))])) _
              refine XS.goto X43.here hx rfl (pc0 := 164) (pc' := 168) rfl (hb hby at_164) (by decide) (by decide) ?_
              show Steps p.tables e below (T43.setTop (mkF m 168 #[.val (.int p0), .val (.int p1), .val (.int p2), .val (.int (p0 &&& (3 : Int32))), .val (.int c40), .unset] [(.int (1 : Int32))])) _
              exact k_)
          obtain ⟨fs, hr, hrun, hended, hW, hsame⟩ := X43.leave (v := some (.int (1 : Int32))) (fun h => by rw [Bd.returns] at h; cases h)
          refine ⟨_, _, pre44 _ ?_, hrun, hended, _, _, rfl, ?_, ⟨_, rfl⟩, hW, hsame.mono (by decide) (by decide)⟩
          · exact retN X43 hx (t := .boolean) Bd.returns (by simp) (hb hby at_168) hr
          · show Q0 Z p0 p1 p2 h0 n0 _ T43.heap _
            rw [e43]
            exact ⟨rfl, N43⟩
        · have pre45 : ∀ t_, Steps p.tables e below (s₁.setTop (mkF m 152 #[.val (.int p0), .val (.int p1), .val (.int p2), .val (.int (p0 &&& (3 : Int32))), .val (.int ((64896 : Int32) + (p1 &&& (255 : Int32)))), .unset] [(.int ((64896 : Int32) + (p1 &&& (255 : Int32))))])) t_ → Steps p.tables e below (s₁.setTop (entryFrame m #[(.int p0), (.int p1), (.int p2)] maxLocals)) t_ := fun t_ k_ => pre37 t_ (by
              refine XS.ifYes X0.here hx rfl (pc0 := 127) (pc' := 140) rfl (hb hby at_127) rfl ((if0 _ _).trans (feq c127_38).2) (by decide) (by decide) ?_
              show Steps p.tables e below (s₁.setTop (mkF m 140 #[.val (.int p0), .val (.int p1), .val (.int p2), .val (.int (p0 &&& (3 : Int32))), .unset, .unset] [])) _
              refine X0.ldcInt hx hown (mvT hZ (hw _ (List.mem_of_getElem? (i := 18) rfl))) (g := (mkF m 140 #[.val (.int p0), .val (.int p1), .val (.int p2), .val (.int (p0 &&& (3 : Int32))), .unset, .unset] [])) rfl (hb hby at_140) _ ?_
              show Steps p.tables e below (s₁.setTop (mkF m 142 #[.val (.int p0), .val (.int p1), .val (.int p2), .val (.int (p0 &&& (3 : Int32))), .unset, .unset] [(.int (64896 : Int32))])) _
              refine XS.iloadN X0.here hx rfl (hb hby at_142) rfl ?_
              show Steps p.tables e below (s₁.setTop (mkF m 143 #[.val (.int p0), .val (.int p1), .val (.int p2), .val (.int (p0 &&& (3 : Int32))), .unset, .unset] [(.int p1), (.int (64896 : Int32))])) _
              refine XS.sipush X0.here hx rfl (hb hby at_143) ?_
              show Steps p.tables e below (s₁.setTop (mkF m 146 #[.val (.int p0), .val (.int p1), .val (.int p2), .val (.int (p0 &&& (3 : Int32))), .unset, .unset] [(.int (255 : Int32)), (.int p1), (.int (64896 : Int32))])) _
              refine XS.iand X0.here hx rfl (hb hby at_146) rfl ?_
              show Steps p.tables e below (s₁.setTop (mkF m 147 #[.val (.int p0), .val (.int p1), .val (.int p2), .val (.int (p0 &&& (3 : Int32))), .unset, .unset] [(.int (p1 &&& (255 : Int32))), (.int (64896 : Int32))])) _
              refine XS.iadd X0.here hx rfl (hb hby at_147) rfl ?_
              show Steps p.tables e below (s₁.setTop (mkF m 148 #[.val (.int p0), .val (.int p1), .val (.int p2), .val (.int (p0 &&& (3 : Int32))), .unset, .unset] [(.int ((64896 : Int32) + (p1 &&& (255 : Int32))))])) _
              refine XS.istore X0.here hx rfl (hb hby at_148) rfl (l' := #[.val (.int p0), .val (.int p1), .val (.int p2), .val (.int (p0 &&& (3 : Int32))), .val (.int ((64896 : Int32) + (p1 &&& (255 : Int32)))), .unset]) rfl ?_
              show Steps p.tables e below (s₁.setTop (mkF m 150 #[.val (.int p0), .val (.int p1), .val (.int p2), .val (.int (p0 &&& (3 : Int32))), .val (.int ((64896 : Int32) + (p1 &&& (255 : Int32)))), .unset] [])) _
              refine XS.iload X0.here hx rfl (hb hby at_150) rfl ?_
              show Steps p.tables e below (s₁.setTop (mkF m 152 #[.val (.int p0), .val (.int p1), .val (.int p2), .val (.int (p0 &&& (3 : Int32))), .val (.int ((64896 : Int32) + (p1 &&& (255 : Int32)))), .unset] [(.int ((64896 : Int32) + (p1 &&& (255 : Int32))))])) _
              exact k_)
          obtain ⟨c46, e_c46⟩ : ∃ z : Int32, z = ((64896 : Int32) + (p1 &&& (255 : Int32))) := ⟨_, rfl⟩
          have pre47 : ∀ t_, Steps p.tables e below (s₁.setTop (mkF m 152 #[.val (.int p0), .val (.int p1), .val (.int p2), .val (.int (p0 &&& (3 : Int32))), .val (.int c46), .unset] [(.int c46)])) t_ → Steps p.tables e below (s₁.setTop (entryFrame m #[(.int p0), (.int p1), (.int p2)] maxLocals)) t_ := by subst e_c46; exact pre45
          obtain ⟨_, _, ⟨T48, L48, k48, n48⟩, -, X48, ⟨Lc48, hQ48, l48, y48, z48⟩, st48⟩ := Jvm.LawKit.callS X0 hx (y := (⟨"com/example/godwit/godwit/XmlChars", "isDiscouraged", "(I)Z"⟩ : MethodName)) hown (mvT hZ (hw _ (List.mem_of_getElem? (i := 0) rfl))) (mvT hZ (hw _ (List.mem_of_getElem? (i := 1) rfl))) (mvT hZ (hw _ (List.mem_of_getElem? (i := 2) rfl))) (mvT hZ (hw _ (List.mem_of_getElem? (i := 3) rfl))) (by decide) (backOf (W := 0) (rmA l Z a0 hw [] c46  h0 n0 Z0) hZ (hw _ (List.mem_of_getElem? (i := 3) rfl)) (hw _ (List.mem_of_getElem? (i := 2) rfl)) (by decide) (by decide)) (g := (mkF m 152 #[.val (.int p0), .val (.int p1), .val (.int p2), .val (.int (p0 &&& (3 : Int32))), .val (.int c46), .unset] [(.int c46)])) rfl (by rw [hml]; rfl) (argsL := [(.int c46)]) (rest := []) (lenOf pd0_0 rfl) rfl (by show 2 * 0 + _ ≤ _; exact Nat.le_of_eq rfl) (hb hby at_152) (fun _ _ => ⟨rfl, e0, (by decide : 0 + 0 ≤ _), (by decide : 0 + 0 ≤ _)⟩)
          dsimp only [Pt.U, Pt.locs, Pt.cells, Pt.slots] at X48 l48 y48 z48 st48 hQ48
          subst l48 y48 z48
          obtain ⟨rfl, N48q, e48⟩ := hQ48
          have N48 := Fr.app N0 N48q
          obtain ⟨_, _, ⟨T49, L49, k49, n49⟩, -, X49, ⟨Lc49, hQ49, l49, y49, z49⟩, st49⟩ := Jvm.LawKit.callS X48 hx (y := (⟨"com/example/godwit/godwit/XmlCharsIsDiscouragedPinLaw", "expected", "(I)Z"⟩ : MethodName)) hown (mvT hZ (hw _ (List.mem_of_getElem? (i := 6) rfl))) (mvT hZ (hw _ (List.mem_of_getElem? (i := 7) rfl))) (mvT hZ (hw _ (List.mem_of_getElem? (i := 8) rfl))) (mvT hZ (hw _ (List.mem_of_getElem? (i := 9) rfl))) (by decide) (backOf (W := 1) (rmB l Z a0 hw [] c46  h0 n0 Z0) hZ (hw _ (List.mem_of_getElem? (i := 9) rfl)) (hw _ (List.mem_of_getElem? (i := 8) rfl)) (by decide) (by decide)) (g := (mkF m 157 #[.val (.int p0), .val (.int p1), .val (.int p2), .val (.int (p0 &&& (3 : Int32))), .val (.int c46), .unset] [(.int c46), (.int (if own_P c46 then 1 else 0 : Int32))])) rfl (by rw [hml]; rfl) (argsL := [(.int c46)]) (rest := [(.int (if own_P c46 then 1 else 0 : Int32))]) (lenOf pd0_0 rfl) rfl (by show 2 * 0 + _ ≤ _; exact Nat.le_of_eq rfl) (hb hby at_157) (fun _ _ => ⟨rfl, e48, (by decide : 0 + 0 ≤ _), (by decide : 0 + 0 ≤ _)⟩)
          dsimp only [Pt.U, Pt.locs, Pt.cells, Pt.slots] at X49 l49 y49 z49 st49 hQ49
          subst l49 y49 z49
          obtain ⟨rfl, N49q, e49⟩ := hQ49
          have N49 := Fr.app N48 N49q
          have pre50 : ∀ t_, Steps p.tables e below (T49.setTop (mkF m 168 #[.val (.int p0), .val (.int p1), .val (.int p2), .val (.int (p0 &&& (3 : Int32))), .val (.int c46), .unset] [(.int (1 : Int32))])) t_ → Steps p.tables e below (s₁.setTop (entryFrame m #[(.int p0), (.int p1), (.int p2)] maxLocals)) t_ := fun t_ k_ => pre47 t_ (by
              refine st48 _ ?_
              show Steps p.tables e below (T48.setTop (mkF m 155 #[.val (.int p0), .val (.int p1), .val (.int p2), .val (.int (p0 &&& (3 : Int32))), .val (.int c46), .unset] [(.int (if own_P c46 then 1 else 0 : Int32))])) _
              refine XS.iload X48.here hx rfl (hb hby at_155) rfl ?_
              show Steps p.tables e below (T48.setTop (mkF m 157 #[.val (.int p0), .val (.int p1), .val (.int p2), .val (.int (p0 &&& (3 : Int32))), .val (.int c46), .unset] [(.int c46), (.int (if own_P c46 then 1 else 0 : Int32))])) _
              refine st49 _ ?_
              show Steps p.tables e below (T49.setTop (mkF m 160 #[.val (.int p0), .val (.int p1), .val (.int p2), .val (.int (p0 &&& (3 : Int32))), .val (.int c46), .unset] [(.int (if own_E c46 then 1 else 0 : Int32)), (.int (if own_P c46 then 1 else 0 : Int32))])) _
              refine XS.icmpNo X49.here hx rfl (hb hby at_160) rfl (teq (by simp only [own_same] : (if own_P c46 then 1 else 0 : Int32) = (if own_E c46 then 1 else 0 : Int32))).2 ?_
              show Steps p.tables e below (T49.setTop (mkF m 163 #[.val (.int p0), .val (.int p1), .val (.int p2), .val (.int (p0 &&& (3 : Int32))), .val (.int c46), .unset] [])) _
              refine XS.iconst X49.here hx rfl (hb hby at_163) ?_
              show Steps p.tables e below (T49.setTop (mkF m 164 #[.val (.int p0), .val (.int p1), .val (.int p2), .val (.int (p0 &&& (3 : Int32))), .val (.int c46), .unset] [(.int (1 : Int32))])) _
              refine XS.goto X49.here hx rfl (pc0 := 164) (pc' := 168) rfl (hb hby at_164) (by decide) (by decide) ?_
              show Steps p.tables e below (T49.setTop (mkF m 168 #[.val (.int p0), .val (.int p1), .val (.int p2), .val (.int (p0 &&& (3 : Int32))), .val (.int c46), .unset] [(.int (1 : Int32))])) _
              exact k_)
          obtain ⟨fs, hr, hrun, hended, hW, hsame⟩ := X49.leave (v := some (.int (1 : Int32))) (fun h => by rw [Bd.returns] at h; cases h)
          refine ⟨_, _, pre50 _ ?_, hrun, hended, _, _, rfl, ?_, ⟨_, rfl⟩, hW, hsame.mono (by decide) (by decide)⟩
          · exact retN X49 hx (t := .boolean) Bd.returns (by simp) (hb hby at_168) hr
          · show Q0 Z p0 p1 p2 h0 n0 _ T49.heap _
            rw [e49]
            exact ⟨rfl, N49⟩
set_option maxRecDepth 65536 in
set_option maxHeartbeats 40000000 in
theorem comes_1 {Post : Tables → Env → Array Value → State → Outcome → State → Prop} (hpost : ∀ tb e args s v u, (limb_1_1.after args s (.returned v) u = true ∧ limb_1_2.after args s (.returned v) u = true ∧ True) → FrameEnd s (.returned v) u (Jvm.fieldLocs frame_1_writes args s ++ Jvm.arrayLocs frame_1_arrays args s ++ Jvm.staticLocs frame_1_statics s) 16 128 → Post tb e args s (.returned v) u) :
    ArmFor flags0 classFile x code maxLocals ret World_1 tables_1 room_1 Calls_1 rest_1 Pre_1 Post := by
  intro l hfl _ _ p e ha hc hk s m args below hf hA hF happ hP
  obtain ⟨hcalls, hrest, hpre⟩ := hP
  obtain ⟨-, -, -, hnamed, -, -, -, hat⟩ := (Spec.applies_iff hf).mp happ
  obtain ⟨hg, hn⟩ := and_e (Cond.before_iff.mp (show (Jvm.Cond.and given_1 narrow_1).before args s = true from hpre))
  obtain ⟨hcount, hg0⟩ := and_e hg
  obtain ⟨ha0, hg1⟩ := and_e hg0
  obtain ⟨ha1, hg2⟩ := and_e hg1
  have ha2 := hg2
  obtain ⟨w0, w1, w2, rfl⟩ : ∃ w0 w1 w2 : Value, args = #[w0, w1, w2] := by
    have hs : args.size = 3 := by simpa [Cond.value, given_1] using hcount
    obtain ⟨L⟩ := args
    match L, hs with
    | [w0, w1, w2], _ => exact ⟨w0, w1, w2, rfl⟩
  have hw := fun d (hd : d ∈ tables_1) => atoms_spec (ws := Jvm.Cond.code x code maxLocals ret :: tables_1) hat d (List.mem_cons_of_mem _ hd)
  have hfit : Fit s := fun {y c} hc i hi => by
    obtain ⟨ha, rfl⟩ := Array.getElem?_eq_some_iff.mp hc
    have q := List.all_eq_true.mp ((Array.all_eq_true_iff_forall_mem.mp hF) _ (Array.getElem_mem ha)) i (List.mem_range.mpr hi)
    simpa [Array.getElem?_eq_getElem hi] using q
  obtain ⟨i0, ei0⟩ := is_v ha0
  obtain rfl : w0 = (.int i0) := Option.some.inj ei0
  obtain ⟨i1, ei1⟩ := is_v ha1
  obtain rfl : w1 = (.int i1) := Option.some.inj ei1
  obtain ⟨i2, ei2⟩ := is_v ha2
  obtain rfl : w2 = (.int i2) := Option.some.inj ei2
  obtain ⟨n, o, h1, h2, h3, _, L, rfl, ⟨rfl, N⟩, hq⟩ := rm0 l s _ hw tables_1 i0 i1 i2  s.heap s.heap.size (Nat.le_refl _)  p e ha hc hk s m _ below hf ((Spec.applies_iff_loose hf).mp happ).1 ⟨rfl, State.Warmed39.refl s, rfl⟩ trivial
  refine ⟨n, _, h1, h2, h3, hpost _ _ _ _ _ _ ⟨Cond.after_iff.mpr rfl, Cond.after_iff.mpr (eq_i res_at (Term.int_eval (1)) rfl), trivial⟩ ⟨hq.1, hq.2.1, (hq.2.2.sift fun y hy => Or.inr (N y hy)).mono (by decide) (by decide)⟩⟩
theorem main_1_1 : Claimed_1_1 := comes_1 fun _ _ _ _ _ _ h hF => ⟨h.1, hF⟩
theorem main_1_2 : Claimed_1_2 := comes_1 fun _ _ _ _ _ _ h hF => ⟨h.2.1, hF⟩
end Jvm.Pilot.@@N@@
namespace Jvm.Pilot.@@N@@
open Jvm Jvm.ClassFile Sem Op Lib Jvm.Free Jvm.Stand Jvm.Pilot.@@N@@.Jvm.D
/-! MADE BY PROGRAM (witnessworld.py) out of the Statement's table words and the real class files: 9 classes; the members and pool entries that the words name. The judged class is class 1, her method 1. -/
namespace start1
open Jvm.ClassFile
def u (s : String) : CpInfo := .utf8 (stringToUtf16 s)
/-- a pool by its gaps: so many unusable entries, then the entry; so many at the end -/
def gap : Nat → List CpInfo → List CpInfo
  | 0, r => r
  | n + 1, r => .unusable :: gap n r
def poolList (es : List (Nat × CpInfo)) (last : Nat) : List CpInfo := es.foldr (fun e r => gap e.1 (e.2 :: r)) (gap last [])
def pool (es : List (Nat × CpInfo)) (last : Nat) : Array CpInfo := ⟨poolList es last⟩
def fileOf (pool : Array CpInfo) (this : Nat) (attrs : Array Attribute := #[]) (ms : Array MethodInfo := #[]) (fl : Nat := 33) (sup : Nat := 0) (ifs : Array Nat := #[]) (fds : Array FieldInfo := #[]) : ClassFile where
  minorVersion := 0
  majorVersion := 65
  constantPool := pool
  accessFlags := fl
  thisClass := this
  superClass := sup
  interfaces := ifs
  fields := fds
  methods := ms
  attributes := attrs
def plain (name : String) (sup : Option ClassId) : Class where
  name := name
  kind := .ordinary
  loader := none
  accessFlags := 33
  super := sup
  interfaces := #[]
  cf := none
  fields := #[]
  methods := #[]
  instanceTypes := #[]
  staticTypes := #[]
  resolved := #[]
  callSites := []
  init := .initialized
  statics := none
  mirror := none

def pool0 : Array CpInfo := pool [(5, u "<init>"), (0, u "()V"), (1, .class_ 10), (1, u "java/lang/Object")] 113

def k0m0 : Method := { name := "<init>", desc := "()V", sig := { parameters := [], returnType := none }, accessFlags := 1, code := none }
/-- java/lang/Object -/
def k0 : Class := { plain "java/lang/Object" none with
  accessFlags := 33
  interfaces := #[]
  cf := some (fileOf pool0 8 #[] #[{ accessFlags := 1, nameIndex := 5, descriptorIndex := 6, attributes := #[] }] 33 0 #[] #[])
  fields := #[]
  methods := #[k0m0]
  instanceTypes := #[]
  staticTypes := #[]
  resolved := Array.replicate 124 none
  statics := none }

def pool1 : Array CpInfo := pool [(2, .class_ 4), (1, u "java/lang/Object"), (0, u "<init>"), (0, u "()V"), (0, .integer 64976), (0, .integer 65007), (0, .integer 131070), (0, .integer 1114111), (0, .integer 65534), (0, .integer 1114112), (0, .integer 65520), (0, .integer 64896), (0, .methodref 16 17), (0, .class_ 18), (0, .nameAndType 19 20), (0, u "com/example/godwit/godwit/XmlChars"), (0, u "isDiscouraged"), (0, u "(I)Z"), (0, .methodref 22 23), (0, .class_ 24), (0, .nameAndType 25 20), (0, u "com/example/godwit/godwit/XmlCharsIsDiscouragedPinLaw"), (0, u "expected"), (0, .integer 65536), (0, .integer 65535), (2, u "law"), (0, u "(III)Z")] 3

def k1m0 : Method := { name := "<init>", desc := "()V", sig := { parameters := [], returnType := none }, accessFlags := 2, code := none }
def k1c1 : Code := { maxStack := 4, maxLocals := 6, code := code, exceptionTable := #[], attributes := #[] }
def k1m1 : Method := { name := "law", desc := "(III)Z", sig := { parameters := [.int, .int, .int], returnType := some .boolean }, accessFlags := 9, code := some k1c1 }
def k1c2 : Code := { maxStack := 2, maxLocals := 4, code := method_3_code, exceptionTable := #[], attributes := #[] }
def k1m2 : Method := { name := "expected", desc := "(I)Z", sig := { parameters := [.int], returnType := some .boolean }, accessFlags := 10, code := some k1c2 }
/-- com/example/godwit/godwit/XmlCharsIsDiscouragedPinLaw -/
def k1 : Class := { plain "com/example/godwit/godwit/XmlCharsIsDiscouragedPinLaw" (some 0) with
  accessFlags := 49
  interfaces := #[]
  cf := some (fileOf pool1 22 #[] #[{ accessFlags := 2, nameIndex := 5, descriptorIndex := 6, attributes := #[] }, { accessFlags := 9, nameIndex := 30, descriptorIndex := 31, attributes := #[] }, { accessFlags := 10, nameIndex := 25, descriptorIndex := 20, attributes := #[] }] 49 2 #[] #[])
  fields := #[]
  methods := #[k1m0, k1m1, k1m2]
  instanceTypes := #[]
  staticTypes := #[]
  resolved := Array.replicate 35 none
  statics := none }

def pool2 : Array CpInfo := pool [(2, .class_ 4), (1, u "java/lang/Object"), (0, u "<init>"), (0, u "()V"), (4, .integer 1114111), (2, .class_ 16), (1, u "com/example/godwit/godwit/XmlChars"), (12, .integer 64976), (0, .integer 65007), (0, .integer 131070), (0, .integer 65534), (2, u "ASCII"), (0, u "[B"), (3, u "(I)Z"), (44, u "NAME_START"), (0, u "B"), (2, u "NAME"), (10, u "isDiscouraged")] 6

def k2m0 : Method := { name := "<init>", desc := "()V", sig := { parameters := [], returnType := none }, accessFlags := 2, code := none }
def k2c1 : Code := { maxStack := 2, maxLocals := 1, code := prog_13_method_9_code, exceptionTable := #[], attributes := #[] }
def k2m1 : Method := { name := "isDiscouraged", desc := "(I)Z", sig := { parameters := [.int], returnType := some .boolean }, accessFlags := 9, code := some k2c1 }
/-- com/example/godwit/godwit/XmlChars -/
def k2 : Class := { plain "com/example/godwit/godwit/XmlChars" (some 0) with
  accessFlags := 49
  interfaces := #[]
  cf := some (fileOf pool2 14 #[] #[{ accessFlags := 2, nameIndex := 5, descriptorIndex := 6, attributes := #[] }, { accessFlags := 9, nameIndex := 100, descriptorIndex := 40, attributes := #[] }] 49 2 #[] #[{ accessFlags := 26, nameIndex := 85, descriptorIndex := 86, attributes := #[] }, { accessFlags := 26, nameIndex := 89, descriptorIndex := 86, attributes := #[] }, { accessFlags := 26, nameIndex := 35, descriptorIndex := 36, attributes := #[] }])
  fields := #[{ name := "NAME_START", type := .byte, accessFlags := 26, slot := 0, constantValue := 0 }, { name := "NAME", type := .byte, accessFlags := 26, slot := 1, constantValue := 0 }, { name := "ASCII", type := (.array .byte), accessFlags := 26, slot := 2, constantValue := 0 }]
  methods := #[k2m0, k2m1]
  instanceTypes := #[]
  staticTypes := #[.byte, .byte, (.array .byte)]
  resolved := Array.replicate 107 none
  statics := none }

def pool3 : Array CpInfo := pool [(1, u "java/lang/Cloneable"), (0, .class_ 1), (0, u "java/lang/Object"), (0, .class_ 3)] 3

/-- java/lang/Cloneable -/
def k3 : Class := { plain "java/lang/Cloneable" (some 0) with
  accessFlags := 1537
  interfaces := #[]
  cf := some (fileOf pool3 2 #[] #[] 1537 4 #[] #[])
  fields := #[]
  methods := #[]
  instanceTypes := #[]
  staticTypes := #[]
  resolved := Array.replicate 8 none
  statics := none }

def pool4 : Array CpInfo := pool [(1, u "java/io/Serializable"), (0, .class_ 1), (0, u "java/lang/Object"), (0, .class_ 3)] 3

/-- java/io/Serializable -/
def k4 : Class := { plain "java/io/Serializable" (some 0) with
  accessFlags := 1537
  interfaces := #[]
  cf := some (fileOf pool4 2 #[] #[] 1537 4 #[] #[])
  fields := #[]
  methods := #[]
  instanceTypes := #[]
  staticTypes := #[]
  resolved := Array.replicate 8 none
  statics := none }

/-- the primitive byte -/
def k5 : Class := { plain "byte" none with kind := .primitive 'B', accessFlags := 0x411 }
/-- [B -/
def k6 : Class := { plain "[B" (some 0) with kind := .array 5 .byte, interfaces := #[3, 4], accessFlags := 1041 }

/-- the primitive int -/
def k7 : Class := { plain "int" none with kind := .primitive 'I', accessFlags := 0x411 }
/-- [I -/
def k8 : Class := { plain "[I" (some 0) with kind := .array 7 .int, interfaces := #[3, 4], accessFlags := 1041 }

def heap : Heap := #[]
def classes : Array Class := #[k0, k1, k2, k3, k4, k5, k6, k7, k8]
def interned : List (Array UInt16 × Addr) := []
def slotsUsed : Nat := 0
def theMethod : MethodId := ⟨1, 1⟩
def args0 : Array Value := #[.int 5, .int 7, .int 9]
def aboutOver (below : List Frame) : State where
  vm := { classes := classes, interned := interned.toArray }
  heap := heap
  slotsUsed := slotsUsed
  threads := #[{ frames := .invoking theMethod args0 :: below }]
def below0 : List Frame := [.native { method := ⟨0, 0⟩, args := #[] }]
def about1 : State := aboutOver below0
def p0 : Program := .bare "" "" ""
def e0 : Env := launch0.env 0 0 0
theorem w_frames : about1.frames = Frame.invoking theMethod args0 :: below0 := rfl
set_option maxRecDepth 65536 in
theorem w_args : argsFit about1.vm theMethod args0 = true := by decide +kernel
set_option maxRecDepth 65536 in
theorem w_heap : heapFits about1 = true := by decide +kernel
set_option maxRecDepth 65536 in
theorem w_runnable : about1.curStatus? = some .runnable := by decide +kernel
set_option maxRecDepth 65536 in
theorem w_alone : about1.alone = true := by decide +kernel
set_option maxRecDepth 65536 in
theorem w_named : about1.methodNamed? x = some theMethod := by decide +kernel
set_option maxRecDepth 65536 in
theorem w_hears : about1.hears theMethod below0 = true := by decide +kernel
set_option maxRecDepth 65536 in
theorem w_ripe : about1.ripe theMethod args0 below0 = true := by decide +kernel
theorem w_running : about1.status = .running := rfl
set_option maxRecDepth 65536 in
theorem w_room : about1.hasRoom e0.platform room_1 = true :=
  launch0.hasRoom_least _ room_1 (by decide +kernel) (by decide +kernel) (by decide +kernel) (by decide +kernel) (by decide +kernel) (by decide +kernel)
theorem allAtoms_all (ts : List Jvm.Cond) (a : Array Jvm.Value) (st : Jvm.State) : (allAtoms ts).before a st = ts.all (fun c => c.before a st) := by
  induction ts with
  | nil => rfl
  | cons c t ih =>
    show (Jvm.Cond.and c (allAtoms t)).before a st = _
    rw [Jvm.Cond.before_and, ih, List.all_cons]
def words1 : List Jvm.Cond := Jvm.Cond.code x code maxLocals ret :: tables_1
/-- a 'code' word, met by the world's own term for the bytes: nothing is compared byte by byte -/
theorem code_word {y : MethodName} {bytes : ByteArray} {mx : Nat} {rt : Option FieldType} {a : Array Value} {s : State} {m : MethodId} {meth : Method} {c : Code} (h1 : s.methodNamed? y = some m) (h2 : s.vm.method? m = some meth) (h3 : meth.code = some c) (h4 : c.code = bytes)
    (h5 : (c.maxLocals == mx && c.exceptionTable.isEmpty && decide (c.maxStack ≤ mostOperands) && decide (meth.sig.returnType = rt) && !meth.locks && decide (parseMethodDescriptor y.desc = some meth.sig)) = true) : (Jvm.Cond.code y bytes mx rt).before a s = true := by
  simp only [Bool.and_eq_true, beq_iff_eq, Bool.not_eq_true', decide_eq_true_eq] at h5
  obtain ⟨⟨⟨⟨⟨g1, g2⟩, g3⟩, g4⟩, g5⟩, g6⟩ := h5
  simp [Cond.before, Cond.holds, Cond.value, h1, h2, h3, h4, g1, g2, g3, g4, g5, g6]
def isCode : Jvm.Cond → Bool
  | .code _ _ _ _ => true
  | _ => false
theorem all_split {L : List Jvm.Cond} {P : Jvm.Cond → Bool} (h1 : L.all (fun c => isCode c || P c) = true) (h2 : ∀ c ∈ L.filter isCode, P c = true) : L.all P = true := by
  refine List.all_eq_true.mpr fun c hc => ?_
  have h := List.all_eq_true.mp h1 c hc
  rcases Bool.eq_false_or_eq_true (isCode c) with hi | hi
  · exact h2 c (List.mem_filter.mpr ⟨hc, hi⟩)
  · simpa [hi] using h
set_option maxRecDepth 65536 in
theorem w_c0 : (Jvm.Cond.code x code maxLocals ret).before args0 about1 = true := code_word (m := ⟨1, 1⟩) (meth := k1m1) (c := k1c1) (by decide +kernel) rfl rfl rfl (by decide +kernel)
set_option maxRecDepth 65536 in
theorem w_c1 : (Jvm.Cond.code ({ cls := "com/example/godwit/godwit/XmlChars", name := "isDiscouraged", desc := "(I)Z" } : Jvm.MethodName) prog_13_method_9_code (1 : Nat) (Option.some Jvm.ClassFile.FieldType.boolean)).before args0 about1 = true := code_word (m := ⟨2, 1⟩) (meth := k2m1) (c := k2c1) (by decide +kernel) rfl rfl rfl (by decide +kernel)
set_option maxRecDepth 65536 in
theorem w_c2 : (Jvm.Cond.code ({ cls := "com/example/godwit/godwit/XmlCharsIsDiscouragedPinLaw", name := "expected", desc := "(I)Z" } : Jvm.MethodName) method_3_code (4 : Nat) (Option.some Jvm.ClassFile.FieldType.boolean)).before args0 about1 = true := code_word (m := ⟨1, 2⟩) (meth := k1m2) (c := k1c2) (by decide +kernel) rfl rfl rfl (by decide +kernel)
def codes1 : List Jvm.Cond := [Jvm.Cond.code x code maxLocals ret, Jvm.Cond.code ({ cls := "com/example/godwit/godwit/XmlChars", name := "isDiscouraged", desc := "(I)Z" } : Jvm.MethodName) prog_13_method_9_code (1 : Nat) (Option.some Jvm.ClassFile.FieldType.boolean), Jvm.Cond.code ({ cls := "com/example/godwit/godwit/XmlCharsIsDiscouragedPinLaw", name := "expected", desc := "(I)Z" } : Jvm.MethodName) method_3_code (4 : Nat) (Option.some Jvm.ClassFile.FieldType.boolean)]
set_option maxRecDepth 65536 in
theorem codes_eq : words1.filter isCode = codes1 := rfl
theorem w_codes : ∀ c ∈ words1.filter isCode, c.before args0 about1 = true := by
  rw [codes_eq]
  intro c hc
  simp only [codes1, List.mem_cons, List.not_mem_nil, or_false] at hc
  rcases hc with rfl | rfl | rfl
  · exact w_c0
  · exact w_c1
  · exact w_c2
set_option maxRecDepth 65536 in
theorem w_t1 : (words1.take 24).all (fun c => isCode c || c.before args0 about1) = true := by decide +kernel
set_option maxRecDepth 65536 in
theorem w_t2 : (words1.drop 24).all (fun c => isCode c || c.before args0 about1) = true := by decide +kernel
theorem w_tables : (allAtoms (Jvm.Cond.code x code maxLocals ret :: tables_1)).before args0 about1 = true := by
  rw [allAtoms_all]
  show words1.all (fun c => c.before args0 about1) = true
  refine all_split ?_ w_codes
  rw [← List.take_append_drop 24 words1, List.all_append, w_t1, w_t2]
  rfl
set_option maxRecDepth 65536 in
theorem w_case : (Jvm.Cond.and given_1 narrow_1).before args0 about1 = true := by decide +kernel
theorem w_applies : (headSpec (Jvm.Cond.code x code maxLocals ret :: tables_1) room_1).applies x e0.platform about1 = true :=
  (Spec.applies_iff w_frames).mpr ⟨w_running, w_runnable, w_alone, w_named, w_hears, w_ripe, w_room, w_tables⟩
theorem atStart : AtStart classFile x code maxLocals ret World_1 tables_1 room_1 Calls_1 rest_1 Pre_1 launch0 p0 e0 about1 theMethod args0 below0 :=
  ⟨lists_1, trivial, launch0.admits_env _ _ _, launch0.least_env, fairChoices_fair.cas, fairChoices_fair.clock, w_frames, w_args, w_heap, w_applies, trivial, trivial, w_case⟩
end start1
theorem witness_1 : WitnessClaimed_1 := ⟨start1.p0, start1.e0, start1.about1, start1.theMethod, start1.args0, start1.below0, start1.atStart⟩
end Jvm.Pilot.@@N@@
