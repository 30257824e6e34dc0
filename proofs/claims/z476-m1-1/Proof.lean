import JvmDerived
import JvmDerived.Pilot.@@N@@Statement
import JvmDerived.Pilot.@@N@@Code
set_option linter.unusedVariables false
set_option linter.unusedSimpArgs false

namespace Jvm.RoadKit
open Sem ClassFile Op Lib Jvm.Stand Jvm.Free Jvm.LawKit
section New
variable {p : Program} {l : Launch} {e : Env} {R : Room} {s : State} {m : MethodId} {args : Array Value} {below : List Frame} {meth : Method} {c : Code} {T : State} {locs : List Loc} {cells slots : Nat}
theorem retI (X : Stand p l e R s m args below meth c T locs cells slots) (hx : p.tables.exec = Jvm.exec) {pc : Nat} {Ls : Array Slot} {z : Int32} {rest : List Value} (hret : meth.sig.returnType = some .int) (hd : decode c.code pc = .ok (.ireturn, 1)) {fs : List Frame}
    (hl : ∀ (f : JFrame) (acts : List Action), f.method = m → f.locked = none → f.entered = [] → (doReturn e (T.setTop f) acts (some (.int z))).1 = T.setFrames fs) : Steps p.tables e below (T.setTop (mkF m pc Ls (.int z :: rest))) (T.setFrames fs) := by
  exact retOut X hx hret rfl (Or.inl ⟨rfl, Or.inl rfl, _, rfl⟩) hd hl
end New
end Jvm.RoadKit

namespace Jvm.Pilot.@@N@@
open Jvm Jvm.ClassFile Sem Op Lib Jvm.Free Jvm.Stand Jvm.LawKit Jvm.RoadKit Bundle Jvm.Pilot.@@N@@.Jvm.D

/-! arrays by a function of the place: what each place holds -/
def oUpd (f : Nat → Value) (k : Nat) (v : Value) : Nat → Value := fun i => if i = k then v else f i
def OArr (Z : State) (h : Heap) (a : Addr) (ty : FieldType) (n : Nat) (f : Nat → Value) : Prop := ∃ c : Cell, Arr Z h a c ty ∧ c.slots.size = n ∧ ∀ i, i < n → c.slots[i]? = some (f i)
section OArrFacts
variable {Z : State} {h h' : Heap} {a b : Addr} {ty : FieldType} {n : Nat} {f : Nat → Value} {sl : Nat} {v : Value} {ws : List Addr}
theorem oUpd_same (f : Nat → Value) (k : Nat) (v : Value) : oUpd f k v k = v := if_pos rfl
theorem oUpd_ne {f : Nat → Value} {k i : Nat} {v : Value} (h : i ≠ k) : oUpd f k v i = f i := if_neg h
theorem OArr.lt (F : OArr Z h a ty n f) : a < h.size := by obtain ⟨c, A, -⟩ := F; exact A.lt
theorem OArr.ext (F : OArr Z h a ty n f) (E : Ext h h') : OArr Z h' a ty n f := by obtain ⟨c, A, r⟩ := F; exact ⟨c, A.ext E, r⟩
theorem OArr.other (F : OArr Z h b ty n f) (W : Wr h h' a sl v) (q : b ≠ a) : OArr Z h' b ty n f := by obtain ⟨c, A, r⟩ := F; exact ⟨c, A.other W q, r⟩
theorem OArr.keep (F : OArr Z h a ty n f) (K : Keep h h' ws) (q : a ∉ ws) : OArr Z h' a ty n f := by obtain ⟨c, A, r⟩ := F; exact ⟨c, ⟨K.2.1 a c A.1 q, A.2⟩, r⟩
theorem OArr.congr {f' : Nat → Value} (F : OArr Z h a ty n f) (q : ∀ i, i < n → f i = f' i) : OArr Z h a ty n f' := by obtain ⟨c, A, S, H⟩ := F; exact ⟨c, A, S, fun i hi => by rw [← q i hi]; exact H i hi⟩
theorem OArr.set (F : OArr Z h a ty n f) {k : Nat} (hk : k < n) (W : Wr h h' a k v) : OArr Z h' a ty n (oUpd f k v) := by
  obtain ⟨c, A, S, H⟩ := F
  refine ⟨_, A.same W, by rw [sz_set]; exact S, fun i hi => ?_⟩
  by_cases q : i = k
  · subst q; rw [oUpd_same]; simp [Cell.setSlot, S, hi]
  · rw [oUpd_ne q]; show (c.slots.setIfInBounds k v)[i]? = _
    rw [Array.getElem?_setIfInBounds_ne (Ne.symm q)]; exact H i hi
theorem o_idx {j : Int32} {k : Nat} (h : j.toInt = (k : Int)) : ¬ j < 0 ∧ j.toNatClampNeg = k := by
  refine ⟨?_, ?_⟩
  · rw [Int32.lt_iff_toInt_lt]; show ¬ j.toInt < 0; omega
  · simp only [Int32.toNatClampNeg]; omega
theorem o_in {cl : Cell} {j : Int32} {k n : Nat} (S : cl.slots.size = n) (h : j.toInt = (k : Int)) (hk : k < n) : ¬ (j < 0 ∨ cl.slots.size ≤ j.toNatClampNeg) := by
  obtain ⟨q1, q2⟩ := o_idx h
  rw [S, q2]; intro z; rcases z with z | z
  · exact q1 z
  · omega
end OArrFacts
section OArrLaws
variable {p : Program} {l : Launch} {e : Env} {R : Room} {s : State} {m : MethodId} {args : Array Value} {below : List Frame} {meth : Method} {c : Code} {T : State} {locs : List Loc} {cells slots : Nat} {Z : State} {h : Heap} {a : Addr} {n : Nat} {f : Nat → Value} {a0 : Array Value}
theorem oStI (X : Stand p l e R s m args below meth c T locs cells slots) (hx : p.tables.exec = Jvm.exec) (hZ : Z.Warmed39 s.vm) (eT : T.heap = h) (A : OArr Z h a .int n f) {j x : Int32} {k : Nat} (hj : j.toInt = (k : Int)) (hk : k < n) {g : JFrame} (hg : g.method = m) {rest : List Value} (hs : g.stack = .int x :: .int j :: .ref a :: rest) (hd : decode c.code g.pc = .ok (.iastore, 1)) :
    ∃ T' h', Stand p l e R s m args below meth c T' (locs ++ [⟨a, k⟩]) cells slots ∧ T'.heap = h' ∧ Wr h h' a k (.int x) ∧ OArr Z h' a .int n (oUpd f k (.int x)) ∧ ∀ target, Steps p.tables e below (T'.setTop { g with pc := g.pc + 1, stack := rest }) target → Steps p.tables e below (T.setTop g) target := by
  obtain ⟨cl, Ar, S, H⟩ := A
  obtain ⟨T', h', X', e', W', st⟩ := stI X hx hZ eT Ar (o_in S hj hk) hg hs hd
  rw [(o_idx hj).2] at X' W'
  exact ⟨T', h', X', e', W', OArr.set ⟨cl, Ar, S, H⟩ hk W', st⟩
theorem oStJ (X : Stand p l e R s m args below meth c T locs cells slots) (hx : p.tables.exec = Jvm.exec) (hZ : Z.Warmed39 s.vm) (eT : T.heap = h) (A : OArr Z h a .long n f) {j : Int32} {x : Int64} {k : Nat} (hj : j.toInt = (k : Int)) (hk : k < n) {g : JFrame} (hg : g.method = m) {rest : List Value} (hs : g.stack = .long x :: .int j :: .ref a :: rest) (hd : decode c.code g.pc = .ok (.lastore, 1)) :
    ∃ T' h', Stand p l e R s m args below meth c T' (locs ++ [⟨a, k⟩]) cells slots ∧ T'.heap = h' ∧ Wr h h' a k (.long x) ∧ OArr Z h' a .long n (oUpd f k (.long x)) ∧ ∀ target, Steps p.tables e below (T'.setTop { g with pc := g.pc + 1, stack := rest }) target → Steps p.tables e below (T.setTop g) target := by
  obtain ⟨cl, Ar, S, H⟩ := A
  obtain ⟨T', h', X', e', W', st⟩ := stJ X hx hZ eT Ar (o_in S hj hk) hg hs hd
  rw [(o_idx hj).2] at X' W'
  exact ⟨T', h', X', e', W', OArr.set ⟨cl, Ar, S, H⟩ hk W', st⟩
theorem oStZ (X : Stand p l e R s m args below meth c T locs cells slots) (hx : p.tables.exec = Jvm.exec) (hZ : Z.Warmed39 s.vm) (eT : T.heap = h) (A : OArr Z h a .boolean n f) {j x : Int32} {k : Nat} (hj : j.toInt = (k : Int)) (hk : k < n) {g : JFrame} (hg : g.method = m) {rest : List Value} (hs : g.stack = .int x :: .int j :: .ref a :: rest) (hd : decode c.code g.pc = .ok (.bastore, 1)) :
    ∃ T' h', Stand p l e R s m args below meth c T' (locs ++ [⟨a, k⟩]) cells slots ∧ T'.heap = h' ∧ Wr h h' a k (.int (x &&& 1)) ∧ OArr Z h' a .boolean n (oUpd f k (.int (x &&& 1))) ∧ ∀ target, Steps p.tables e below (T'.setTop { g with pc := g.pc + 1, stack := rest }) target → Steps p.tables e below (T.setTop g) target := by
  obtain ⟨cl, Ar, S, H⟩ := A
  obtain ⟨T', h', X', e', W', st⟩ := stZ X hx hZ eT Ar (o_in S hj hk) hg hs hd
  rw [(o_idx hj).2] at X' W'
  exact ⟨T', h', X', e', W', OArr.set ⟨cl, Ar, S, H⟩ hk W', st⟩
theorem oLdI (X : Stand p l e R s m args below meth c T locs cells slots) (hx : p.tables.exec = Jvm.exec) (hZ : Z.Warmed39 s.vm) (eT : T.heap = h) (A : OArr Z h a .int n f) {j : Int32} {k : Nat} (hj : j.toInt = (k : Int)) (hk : k < n) {v : Int32} (hv : f k = .int v) {g : JFrame} (hg : g.method = m) {rest : List Value} (hs : g.stack = .int j :: .ref a :: rest) (hd : decode c.code g.pc = .ok (.iaload, 1)) :
    ∀ target, Steps p.tables e below (T.setTop { g with pc := g.pc + 1, stack := .int v :: rest }) target → Steps p.tables e below (T.setTop g) target := by
  obtain ⟨cl, Ar, S, H⟩ := A
  have ha := H k hk
  rw [hv] at ha
  exact X.iaload hx (j := j) (v := .int v) (by rw [eT]; exact Ar.1) (State.isArrayOf_alike hZ.alike Ar.2.1) Ar.2.2 (o_in S hj hk) (by rw [(o_idx hj).2]; exact ha) hg hs hd
theorem oLdJ (X : Stand p l e R s m args below meth c T locs cells slots) (hx : p.tables.exec = Jvm.exec) (hZ : Z.Warmed39 s.vm) (eT : T.heap = h) (A : OArr Z h a .long n f) {j : Int32} {k : Nat} (hj : j.toInt = (k : Int)) (hk : k < n) {v : Int64} (hv : f k = .long v) {g : JFrame} (hg : g.method = m) {rest : List Value} (hs : g.stack = .int j :: .ref a :: rest) (hd : decode c.code g.pc = .ok (.laload, 1)) :
    ∀ target, Steps p.tables e below (T.setTop { g with pc := g.pc + 1, stack := .long v :: rest }) target → Steps p.tables e below (T.setTop g) target := by
  obtain ⟨cl, Ar, S, H⟩ := A
  have ha := H k hk
  rw [hv] at ha
  exact X.laload hx (j := j) (v := .long v) (by rw [eT]; exact Ar.1) (State.isArrayOf_alike hZ.alike Ar.2.1) Ar.2.2 (o_in S hj hk) (by rw [(o_idx hj).2]; exact ha) hg hs hd
theorem oLdZ (X : Stand p l e R s m args below meth c T locs cells slots) (hx : p.tables.exec = Jvm.exec) (hZ : Z.Warmed39 s.vm) (eT : T.heap = h) (A : OArr Z h a .boolean n f) {j : Int32} {k : Nat} (hj : j.toInt = (k : Int)) (hk : k < n) {v : Int32} (hv : f k = .int v) {g : JFrame} (hg : g.method = m) {rest : List Value} (hs : g.stack = .int j :: .ref a :: rest) (hd : decode c.code g.pc = .ok (.baload, 1)) :
    ∀ target, Steps p.tables e below (T.setTop { g with pc := g.pc + 1, stack := .int v :: rest }) target → Steps p.tables e below (T.setTop g) target := by
  obtain ⟨cl, Ar, S, H⟩ := A
  have ha := H k hk
  rw [hv] at ha
  exact X.baloadBooleans hx (j := j) (v := .int v) (by rw [eT]; exact Ar.1) (State.isArrayOf_alike hZ.alike Ar.2.1) Ar.2.2 (o_in S hj hk) (by rw [(o_idx hj).2]; exact ha) hg hs hd
theorem oLdB (X : Stand p l e R s m args below meth c T locs cells slots) (hx : p.tables.exec = Jvm.exec) (hZ : Z.Warmed39 s.vm) (eT : T.heap = h) (A : OArr Z h a .byte n f) {j : Int32} {k : Nat} (hj : j.toInt = (k : Int)) (hk : k < n) {v : Int32} (hv : f k = .int v) {g : JFrame} (hg : g.method = m) {rest : List Value} (hs : g.stack = .int j :: .ref a :: rest) (hd : decode c.code g.pc = .ok (.baload, 1)) :
    ∀ target, Steps p.tables e below (T.setTop { g with pc := g.pc + 1, stack := .int v :: rest }) target → Steps p.tables e below (T.setTop g) target := by
  obtain ⟨cl, Ar, S, H⟩ := A
  have ha := H k hk
  rw [hv] at ha
  exact X.baloadBytes hx (j := j) (v := .int v) (by rw [eT]; exact Ar.1) (State.isArrayOf_alike hZ.alike Ar.2.1) Ar.2.2 (o_in S hj hk) (by rw [(o_idx hj).2]; exact ha) hg hs hd
theorem oLen {ty : FieldType} (X : Stand p l e R s m args below meth c T locs cells slots) (hx : p.tables.exec = Jvm.exec) (hZ : Z.Warmed39 s.vm) (eT : T.heap = h) (A : OArr Z h a ty n f) {N : Int32} (hN : N.toInt = (n : Int)) {g : JFrame} (hg : g.method = m) {rest : List Value} (hs : g.stack = .ref a :: rest) (hd : decode c.code g.pc = .ok (.arraylength, 1)) :
    ∀ target, Steps p.tables e below (T.setTop { g with pc := g.pc + 1, stack := .int N :: rest }) target → Steps p.tables e below (T.setTop g) target := by
  obtain ⟨cl, Ar, S, H⟩ := A
  have q := X.arraylength hx (by rw [eT]; exact Ar.1) (State.isArrayOf_alike hZ.alike Ar.2.1) hg hs hd
  have e1 : cl.slots.size.toInt32 = N := len_of (by rw [S]; exact (o_idx hN).2.symm) (o_idx hN).1
  rw [e1] at q
  exact q
theorem oNew (X : Stand p l e R s m args below meth c T locs cells slots) (hx : p.tables.exec = Jvm.exec) (hZ : Z.Warmed39 s.vm) {aty : ArrayType} (w : (Cond.arrayClass (newarray.typeOf aty)).before a0 Z = true) (eT : T.heap = h) {g : JFrame} (hg : g.method = m) (hd : decode c.code g.pc = .ok (.newarray aty, 2)) {z : Int32} {rest : List Value} (hs : g.stack = .int z :: rest)
    {k cap : Nat} (hn : z.toInt = (k : Int)) (hcap : k ≤ cap) (hb : cap * 8 ≤ 536870912) (hc : cells + 1 ≤ R.cells) (hl : slots + cap ≤ R.slots) :
    ∃ T' h', Stand p l e R s m args below meth c T' locs (cells + 1) (slots + cap) ∧ T'.heap = h' ∧ Ext h h' ∧ OArr Z h' h.size (newarray.typeOf aty) k (fun _ => defaultValue (newarray.typeOf aty)) ∧
      ∀ target, Steps p.tables e below (T'.setTop { g with pc := g.pc + 2, stack := .ref h.size :: rest }) target → Steps p.tables e below (T.setTop g) target := by
  obtain ⟨q1, q2⟩ := o_idx hn
  obtain ⟨T', h', cA, X', e', E', A', st⟩ := newP X hx hZ w eT hg hd hs q1 (cap := cap) (by rw [q2]; exact hcap) hb hc hl
  refine ⟨T', h', X', e', E', ⟨_, A', by rw [sz_new, q2], fun i hi => ?_⟩, st⟩
  simp [newA, q2, hi]
end OArrLaws

def own_S (sz : Int32) (G : Nat → Value) (ps : List Int64) : Prop := sz.toInt = (ps.length : Int) ∧ ∀ i, i < ps.length → G i = .long (ps.getD i 0)
theorem own_inc {p : Int32} {n : Nat} (h : p.toInt = (n : Int)) (hn : n < 1000) : (p + (1 : Int32)).toInt = ((n + 1 : Nat) : Int) := by
  rw [Int32.toInt_add, h, show (1 : Int32).toInt = 1 from rfl, Int.bmod_def]; omega
theorem own_dec {p : Int32} {n : Nat} (h : p.toInt = ((n + 1 : Nat) : Int)) (hn : n < 1000) : (p - (1 : Int32)).toInt = (n : Int) := by
  rw [Int32.toInt_sub, h, show (1 : Int32).toInt = 1 from rfl, Int.bmod_def]; omega
theorem own_S.add {sz : Int32} {G : Nat → Value} {ps : List Int64} (H : own_S sz G ps) (hl : ps.length < 1000) (w : Int64) : own_S (sz + (1 : Int32)) (oUpd G ps.length (.long w)) (ps ++ [w]) := by
  refine ⟨by rw [own_inc H.1 hl, List.length_append]; rfl, fun i hi => ?_⟩
  rw [List.length_append] at hi
  by_cases q : i = ps.length
  · subst q; rw [oUpd_same]; simp
  · have hi' : i < ps.length := by simp at hi; omega
    rw [oUpd_ne q, H.2 i hi']; simp [List.getElem?_append_left hi']
theorem own_last (ps : List Int64) {n : Nat} (h : ps.length = n + 1) : ps.getLastD 0 = ps.getD n 0 := by
  rw [List.getLastD_eq_getLast?, List.getLast?_eq_getElem?, h]; simp
theorem own_half {a b : Int32} {x y : Nat} (h1 : a.toInt = (x : Int)) (h2 : b.toInt = (y : Int)) (hx : x < 1000) (hy : y < 1000) : (((a + b).toUInt32 >>> ((1 : Int32) &&& 31).toUInt32).toInt32).toInt = (((x + y) / 2 : Nat) : Int) := by
  have e : (((a + b).toUInt32 >>> ((1 : Int32) &&& 31).toUInt32).toInt32).toBitVec = (a + b).toBitVec >>> 1 := rfl
  have q : (a + b).toInt = ((x + y : Nat) : Int) := by rw [Int32.toInt_add, h1, h2, Int.bmod_def]; omega
  have q1 : (a + b).toBitVec.toNat = x + y := by
    have h3 : (a + b).toBitVec.toInt = ((x + y : Nat) : Int) := q
    rw [BitVec.toInt_eq_toNat_cond] at h3
    have := (a + b).toBitVec.isLt
    split at h3 <;> omega
  show ((((a + b).toUInt32 >>> ((1 : Int32) &&& 31).toUInt32).toInt32).toBitVec).toInt = _
  rw [e, BitVec.toInt_eq_toNat_cond, BitVec.toNat_ushiftRight, q1, Nat.shiftRight_eq_div_pow]
  split <;> omega
theorem own_lt {i z : Int32} {a b : Nat} (h1 : i.toInt = (a : Int)) (h2 : z.toInt = (b : Int)) (h : a < b) : i < z := by rw [Int32.lt_iff_toInt_lt]; omega
theorem own_nlt {i z : Int32} {a b : Nat} (h1 : i.toInt = (a : Int)) (h2 : z.toInt = (b : Int)) (h : ¬ a < b) : ¬ i < z := by rw [Int32.lt_iff_toInt_lt]; omega
theorem own_lc {x y : Int64} (h : x = y) : lcmpW x y = 0 := by subst h; rw [lcW]; exact (lc_eq x x).mpr rfl
theorem own_lcgt {x y : Int64} : (0 : Int32) < lcmpW x y ↔ y.toInt < x.toInt := by rw [lcW, lc_gt, Int64.lt_iff_toInt_lt]
theorem own_lclt {x y : Int64} : lcmpW x y < (0 : Int32) ↔ x.toInt < y.toInt := by rw [lcW, lc_lt, Int64.lt_iff_toInt_lt]
theorem own_m64 (x : Int64) (k : Nat) (hk : k < 63) : (x &&& Int64.ofNat (2 ^ k - 1)).toInt = ((x.toBitVec.toNat % 2 ^ k : Nat) : Int) := by
  have hp : 2 ^ k < 2 ^ 63 := Nat.pow_lt_pow_right (by decide) hk
  have e : (x &&& Int64.ofNat (2 ^ k - 1)).toBitVec.toNat = x.toBitVec.toNat % 2 ^ k := by
    rw [Int64.toBitVec_and, BitVec.toNat_and]
    show x.toBitVec.toNat &&& (BitVec.ofNat 64 (2 ^ k - 1)).toNat = _
    rw [BitVec.toNat_ofNat, Nat.mod_eq_of_lt (by omega), Nat.and_two_pow_sub_one_eq_mod]
  have hm : x.toBitVec.toNat % 2 ^ k < 2 ^ k := Nat.mod_lt _ (Nat.two_pow_pos k)
  show (x &&& Int64.ofNat (2 ^ k - 1)).toBitVec.toInt = _
  rw [BitVec.toInt_eq_toNat_cond, e]
  split <;> omega
theorem own_mask (x : Int64) : 0 ≤ (x &&& (1152921504606846975 : Int64)).toInt ∧ (x &&& (1152921504606846975 : Int64)).toInt < 1152921504606846976 := by
  have h := own_m64 x 60 (by decide)
  have e : Int64.ofNat (2 ^ 60 - 1) = (1152921504606846975 : Int64) := rfl
  rw [e] at h
  have := Nat.mod_lt x.toBitVec.toNat (Nat.two_pow_pos 60)
  rw [h]; omega
theorem own_maskM (x : Int64) : 0 ≤ (x &&& (9223372036854775807 : Int64)).toInt := by
  have h := c_andSL x (9223372036854775807 : Int64)
  exact h.2.2 (by decide)
theorem own_n (x : Int32) : ∃ c : Nat, 1 ≤ c ∧ c ≤ 4 ∧ ((x &&& (3 : Int32)) + (1 : Int32)).toInt = (c : Int) := by
  have e : (x &&& (3 : Int32)).toBitVec.toNat = x.toBitVec.toNat % 4 := by
    rw [Int32.toBitVec_and, BitVec.toNat_and]; exact Nat.and_two_pow_sub_one_eq_mod x.toBitVec.toNat 2
  have q : (x &&& (3 : Int32)).toInt = ((x.toBitVec.toNat % 4 : Nat) : Int) := by
    show (x &&& (3 : Int32)).toBitVec.toInt = _
    rw [BitVec.toInt_eq_toNat_cond, e]; split <;> omega
  refine ⟨x.toBitVec.toNat % 4 + 1, by omega, by omega, own_inc q (by omega)⟩
def own_ps (w0 w1 w2 w3 : Int64) : List Int64 := [w0, w0 + w1, (w0 + w1) + w2, ((w0 + w1) + w2) + w3]
abbrev own_R (w : Int64) : Prop := 0 ≤ w.toInt ∧ w.toInt < 1152921504606846976
theorem own_ladd {x y : Int64} (h1 : 0 ≤ x.toInt) (h2 : 0 ≤ y.toInt) (h3 : x.toInt + y.toInt < 9223372036854775808) : (x + y).toInt = x.toInt + y.toInt := by
  rw [Int64.toInt_add, Int.bmod_def]; omega
theorem own_sums {w0 w1 w2 w3 : Int64} (h0 : own_R w0) (h1 : own_R w1) (h2 : own_R w2) (h3 : own_R w3) : (w0 + w1).toInt = w0.toInt + w1.toInt ∧ ((w0 + w1) + w2).toInt = w0.toInt + w1.toInt + w2.toInt ∧ (((w0 + w1) + w2) + w3).toInt = w0.toInt + w1.toInt + w2.toInt + w3.toInt := by
  have e1 : (w0 + w1).toInt = w0.toInt + w1.toInt := own_ladd (by omega) (by omega) (by omega)
  have e2 : ((w0 + w1) + w2).toInt = w0.toInt + w1.toInt + w2.toInt := by rw [own_ladd (by omega) (by omega) (by omega)]; omega
  have e3 : (((w0 + w1) + w2) + w3).toInt = w0.toInt + w1.toInt + w2.toInt + w3.toInt := by rw [own_ladd (by omega) (by omega) (by omega)]; omega
  exact ⟨e1, e2, e3⟩
theorem own_tail {c : Nat} {w0 w1 w2 w3 : Int64} (hc : 1 ≤ c) (hc4 : c ≤ 4) (h1 : ¬ 1 < c → w1 = 0) (h2 : ¬ 2 < c → w2 = 0) (h3 : ¬ 3 < c → w3 = 0) : ((own_ps w0 w1 w2 w3).take c).getLastD 0 = ((w0 + w1) + w2) + w3 := by
  rcases (by omega : c = 1 ∨ c = 2 ∨ c = 3 ∨ c = 4) with rfl | rfl | rfl | rfl
  · rw [h1 (by decide), h2 (by decide), h3 (by decide)]; simp [own_ps]
  · rw [h2 (by decide), h3 (by decide)]; simp [own_ps]
  · rw [h3 (by decide)]; simp [own_ps]
  · simp [own_ps]
theorem own_lenps {c : Nat} (w0 w1 w2 w3 : Int64) (hc4 : c ≤ 4) : ((own_ps w0 w1 w2 w3).take c).length = c := by
  rw [List.length_take]; show min c 4 = c; omega
theorem own_getps {c i : Nat} (w0 w1 w2 w3 : Int64) (hi : i < c) : ((own_ps w0 w1 w2 w3).take c).getD i 0 = (own_ps w0 w1 w2 w3).getD i 0 := by
  simp [List.getElem?_take, hi]
theorem own_mono {c : Nat} {w0 w1 w2 w3 : Int64} (h0 : own_R w0) (h1 : own_R w1) (h2 : own_R w2) (h3 : own_R w3) (hc4 : c ≤ 4) : ∀ i j, i ≤ j → j < ((own_ps w0 w1 w2 w3).take c).length → (((own_ps w0 w1 w2 w3).take c).getD i 0).toInt ≤ (((own_ps w0 w1 w2 w3).take c).getD j 0).toInt := by
  intro i j hij hj
  rw [own_lenps _ _ _ _ hc4] at hj
  rw [own_getps _ _ _ _ (by omega), own_getps _ _ _ _ hj]
  obtain ⟨e1, e2, e3⟩ := own_sums h0 h1 h2 h3
  have f0 : (own_ps w0 w1 w2 w3).getD 0 0 = w0 := rfl
  have f1 : (own_ps w0 w1 w2 w3).getD 1 0 = w0 + w1 := rfl
  have f2 : (own_ps w0 w1 w2 w3).getD 2 0 = (w0 + w1) + w2 := rfl
  have f3 : (own_ps w0 w1 w2 w3).getD 3 0 = ((w0 + w1) + w2) + w3 := rfl
  rcases (by omega : i = 0 ∨ i = 1 ∨ i = 2 ∨ i = 3) with rfl | rfl | rfl | rfl <;> rcases (by omega : j = 0 ∨ j = 1 ∨ j = 2 ∨ j = 3) with rfl | rfl | rfl | rfl <;> simp only [f0, f1, f2, f3] <;> omega
abbrev own_X (ex : Int32) (u a b c : Int) : Prop := (ex = (0 : Int32) ∧ u < a) ∨ (ex = (1 : Int32) ∧ ¬ u < a ∧ u < b) ∨ (ex = (2 : Int32) ∧ ¬ u < a ∧ ¬ u < b ∧ u < c) ∨ (ex = (3 : Int32) ∧ ¬ u < a ∧ ¬ u < b ∧ ¬ u < c)
theorem own_fin {c k : Nat} {w0 w1 w2 w3 un : Int64} {r ex : Int32} (h0 : own_R w0) (h1 : own_R w1) (h2 : own_R w2) (h3 : own_R w3) (hc4 : c ≤ 4) (hr : r.toInt = (k : Int)) (hk : k < ((own_ps w0 w1 w2 w3).take c).length) (hlo : ∀ j, j < k → (((own_ps w0 w1 w2 w3).take c).getD j 0).toInt ≤ un.toInt) (hhi : un.toInt < (((own_ps w0 w1 w2 w3).take c).getD k 0).toInt)
    (hX : own_X ex un.toInt w0.toInt (w0 + w1).toInt ((w0 + w1) + w2).toInt) : r = ex := by
  rw [own_lenps _ _ _ _ hc4] at hk
  obtain ⟨e1, e2, e3⟩ := own_sums h0 h1 h2 h3
  have f0 : (own_ps w0 w1 w2 w3).getD 0 0 = w0 := rfl
  have f1 : (own_ps w0 w1 w2 w3).getD 1 0 = w0 + w1 := rfl
  have f2 : (own_ps w0 w1 w2 w3).getD 2 0 = (w0 + w1) + w2 := rfl
  have f3 : (own_ps w0 w1 w2 w3).getD 3 0 = ((w0 + w1) + w2) + w3 := rfl
  have hlo' : ∀ j, j < k → ((own_ps w0 w1 w2 w3).getD j 0).toInt ≤ un.toInt := fun j hj => by have := hlo j hj; rwa [own_getps _ _ _ _ (by omega)] at this
  rw [own_getps _ _ _ _ hk] at hhi
  rw [← Int32.toInt_inj, hr]
  rcases (by omega : k = 0 ∨ k = 1 ∨ k = 2 ∨ k = 3) with rfl | rfl | rfl | rfl
  · rw [f0] at hhi
    rcases hX with ⟨rfl, hX⟩ | ⟨rfl, hX⟩ | ⟨rfl, hX⟩ | ⟨rfl, hX⟩ <;> first | rfl | omega
  · have q0 := hlo' 0 (by decide)
    rw [f0] at q0; rw [f1] at hhi
    rcases hX with ⟨rfl, hX⟩ | ⟨rfl, hX⟩ | ⟨rfl, hX⟩ | ⟨rfl, hX⟩ <;> first | rfl | omega
  · have q0 := hlo' 1 (by decide)
    rw [f1] at q0; rw [f2] at hhi
    rcases hX with ⟨rfl, hX⟩ | ⟨rfl, hX⟩ | ⟨rfl, hX⟩ | ⟨rfl, hX⟩ <;> first | rfl | omega
  · have q0 := hlo' 2 (by decide)
    rw [f2] at q0; rw [f3] at hhi
    rcases hX with ⟨rfl, hX⟩ | ⟨rfl, hX⟩ | ⟨rfl, hX⟩ | ⟨rfl, hX⟩ <;> first | rfl | omega
theorem own_rem {x y : Int64} (hx : 0 ≤ x.toInt) (hy : 0 < y.toInt) : 0 ≤ (x - (x / y) * y).toInt ∧ (x - (x / y) * y).toInt < y.toInt := by
  obtain ⟨q, -⟩ := c_lrem x y y.toInt rfl
  rw [q hx]
  exact ⟨Int.emod_nonneg _ (by omega), Int.emod_lt_of_pos _ hy⟩
theorem own_nz {y : Int64} (hy : 0 < y.toInt) : ¬ y = (0 : Int64) := fun h => by rw [h] at hy; exact absurd hy (by decide)

theorem dA_0 : decode prog_8_method_1_code 0 = .ok (.aload_n 0, 1) := by decide +kernel
theorem dA_1 : decode prog_8_method_1_code 1 = .ok (.invokespecial 1, 3) := by decide +kernel
theorem dA_4 : decode prog_8_method_1_code 4 = .ok (.aload_n 0, 1) := by decide +kernel
theorem dA_5 : decode prog_8_method_1_code 5 = .ok (.iconst 0, 1) := by decide +kernel
theorem dA_6 : decode prog_8_method_1_code 6 = .ok (.putfield 7, 3) := by decide +kernel
theorem dA_9 : decode prog_8_method_1_code 9 = .ok (.aload_n 0, 1) := by decide +kernel
theorem dA_10 : decode prog_8_method_1_code 10 = .ok (.iload_n 1, 1) := by decide +kernel
theorem dA_11 : decode prog_8_method_1_code 11 = .ok (.newarray .long, 2) := by decide +kernel
theorem dA_13 : decode prog_8_method_1_code 13 = .ok (.putfield 13, 3) := by decide +kernel
theorem dA_16 : decode prog_8_method_1_code 16 = .ok (.return_, 1) := by decide +kernel
theorem pnA : plainName "com/example/trigonal/trigonal/CumulativeWeights" = true := by first | (simp [plainName, overriddenIn]; done) | decide +kernel
theorem efA (m : MethodId) (a1 : Addr) (p2 : Int32) : entryFrame m #[(.ref a1), (.int p2)] 2 = mkF m 0 #[.val (.ref a1), .val (.int p2)] [] := by first | (simp [entryFrame, mkF, argsToLocals, Value.category]; done) | rfl
def QA (Z : State) (a1 : Addr) (p2 : Int32) (h0 : Heap) (n0 : Nat) (v : Option Value) (h : Heap) (L : List Loc) : Prop := v = none ∧ Fr n0 L ∧ Keep h0 h [a1] ∧ Fld Z h a1 "com/example/trigonal/trigonal/CumulativeWeights" "size" "I" (.int (0 : Int32)) ∧ ∃ b : Addr, n0 ≤ b ∧ h0.size ≤ b ∧ Fld Z h a1 "com/example/trigonal/trigonal/CumulativeWeights" "sums" "[J" (.ref b) ∧ OArr Z h b .long 4 (fun _ => .long (0 : Int64))
set_option maxRecDepth 65536 in
set_option maxHeartbeats 40000000 in
theorem rmA (l : Launch) (Z : State) (a0 : Array Value) (hw : ∀ d ∈ tables_1, d.before a0 Z = true) (ws : List Jvm.Cond) (a1 : Addr) (p2 : Int32) (h0 : Heap) (n0 : Nat) (Z0 : n0 ≤ h0.size) (E1 : Exa Z h0 a1 "com/example/trigonal/trigonal/CumulativeWeights") (F1 : Fld Z h0 a1 "com/example/trigonal/trigonal/CumulativeWeights" "size" "I" (.int (0 : Int32))) (F2 : Fld Z h0 a1 "com/example/trigonal/trigonal/CumulativeWeights" "sums" "[J" .null) (g1 : n0 ≤ a1) (hp : p2.toInt = ((4 : Nat) : Int)) :
    MetFree l (⟨"com/example/trigonal/trigonal/CumulativeWeights", "<init>", "(I)V"⟩ : MethodName) (head1 (Jvm.Cond.code (⟨"com/example/trigonal/trigonal/CumulativeWeights", "<init>", "(I)V"⟩ : MethodName) prog_8_method_1_code 2 none :: ws) ({ frames := 1, cells := 1, slots := 4, locals := 12 } : Room)) (fun a U => a = #[(.ref a1), (.int p2)] ∧ Z.Warmed39 U.vm ∧ U.heap = h0) (fun _ _ _ _ _ => True) (fun _ U o U' => ∃ v L, o = .returned v ∧ QA Z a1 p2 h0 n0 v U'.heap L ∧ FrameEnd U o U' L ({ frames := 1, cells := 1, slots := 4, locals := 12 } : Room).cells ({ frames := 1, cells := 1, slots := 4, locals := 12 } : Room).slots) := by
  refine MetFree.of_bodySF (plainFor_of_name pnA) hisR ?_
  intro p e s m args below meth c s₁ Bd hml0 hP hK
  obtain ⟨rfl, hZ, hh⟩ := hP
  have hx := Bd.exec
  have hby := Bd.bytes
  have hml : c.maxLocals = 2 := hml0
  have hown : s.vm.findClass "com/example/trigonal/trigonal/CumulativeWeights" = some m.cls := findClass_of_methodNamed Bd.named
  have hnm := (name_of_methodNamed Bd.named Bd.method).1
  have X0 : Stand p l e ({ frames := 1, cells := 1, slots := 4, locals := 12 } : Room) s m #[(.ref a1), (.int p2)] below meth c s₁ [] 0 0 := Stand.of_body Bd
  have e0 : s₁.heap = h0 := by rw [← hh, Bd.state]; rfl
  have N0 := Fr.nil n0
  have pre0 : ∀ t, Steps p.tables e below (s₁.setTop (mkF m 0 #[.val (.ref a1), .val (.int p2)] [])) t → Steps p.tables e below (s₁.setTop (entryFrame m #[(.ref a1), (.int p2)] 2)) t := fun t k => castTop (efA m a1 p2) k
  obtain ⟨T1, X1, e1, st1⟩ := initO X0 hx hZ hown (hw _ (List.mem_of_getElem? (i := 7) rfl)) (hw _ (List.mem_of_getElem? (i := 8) rfl)) (hw _ (List.mem_of_getElem? (i := 9) rfl)) e0 (g := (mkF m 1 #[.val (.ref a1), .val (.int p2)] [(.ref a1)])) rfl (by rw [hml]; rfl) rfl (hb hby dA_1) (by decide) (W := 0) (by show 2 * 0 + _ ≤ _; exact Nat.le_of_eq rfl) (by decide)
  obtain ⟨T2, h2, X2, e2, W2, st2⟩ := putF X1 hx hZ hown (host := "") (Or.inl (hw _ (List.mem_of_getElem? (i := 10) rfl))) Via.refl e1 F1 E1 (Or.inl (hw _ (List.mem_of_getElem? (i := 11) rfl))) (hw _ (List.mem_of_getElem? (i := 2) rfl)) (ty := .int) (by decide) rfl rfl (g := (mkF m 6 #[.val (.ref a1), .val (.int p2)] [(.int (0 : Int32)), (.ref a1)])) rfl rfl (hb hby dA_6)
  have Fw2 := F1.same W2
  have f3 := E1.wr W2
  have f4 := F2.other W2 (Or.inr (slot_ne (Or.inr (hw _ (List.mem_of_getElem? (i := 14) rfl))) (Or.inl (hw _ (List.mem_of_getElem? (i := 11) rfl))) (by decide) (t := (.array .long)) (t' := .int) (by decide) (by decide)))
  have N2 := Fr.snoc X2 N0 g1
  have K2 := (Keep.refl h0 [a1]).wr W2 (Or.inl (List.mem_of_getElem? (i := 0) rfl))
  have Z2 : n0 ≤ h2.size := Nat.le_trans Z0 (Keep.of_wr W2).1
  obtain ⟨T5, h5, X5, e5, E5, A5, st5⟩ := oNew X2 hx hZ (hw _ (List.mem_of_getElem? (i := 12) rfl)) e2 (g := (mkF m 11 #[.val (.ref a1), .val (.int p2)] [(.int p2), (.ref a1)])) rfl (hb hby dA_11) rfl (k := 4) (cap := 4) hp (by decide) (by decide) (by decide) (by decide)
  obtain ⟨b9, g5⟩ : ∃ z, z = h2.size := ⟨_, rfl⟩
  rw [← g5] at A5 st5
  have ne6 : a1 ≠ b9 := Nat.ne_of_lt (Nat.lt_of_lt_of_le f3.lt (Nat.le_of_eq g5.symm))
  have gg5 : n0 ≤ b9 := Nat.le_trans Z2 (Nat.le_of_eq g5.symm)
  have sz5 : h0.size ≤ b9 := Nat.le_trans K2.1 (Nat.le_of_eq g5.symm)
  have f7 := f3.ext E5
  have f8 := Fw2.ext E5
  have f9 := f4.ext E5
  have Z5 : n0 ≤ h5.size := Nat.le_trans Z2 E5.1
  have K5 := K2.ext E5
  have B5 : OArr Z h5 b9 .long 4 (fun _ => .long (0 : Int64)) := A5
  obtain ⟨T10, h10, X10, e10, W10, st10⟩ := putF X5 hx hZ hown (host := "") (Or.inl (hw _ (List.mem_of_getElem? (i := 13) rfl))) Via.refl e5 f9 f7 (Or.inr ⟨(hw _ (List.mem_of_getElem? (i := 14) rfl)), rfl, hnm⟩) (hw _ (List.mem_of_getElem? (i := 2) rfl)) (ty := (.array .long)) (by decide) rfl rfl (g := (mkF m 13 #[.val (.ref a1), .val (.int p2)] [(.ref b9), (.ref a1)])) rfl rfl (hb hby dA_13)
  have Fw10 := f9.same W10
  have f11 := f7.wr W10
  have f12 := f8.other W10 (Or.inr (slot_ne (Or.inl (hw _ (List.mem_of_getElem? (i := 11) rfl))) (Or.inr (hw _ (List.mem_of_getElem? (i := 14) rfl))) (by decide) (t := .int) (t' := (.array .long)) (by decide) (by decide)))
  have f13 := B5.other W10 (Ne.symm ne6)
  have N10 := Fr.snoc X10 N2 g1
  have K10 := K5.wr W10 (Or.inl (List.mem_of_getElem? (i := 0) rfl))
  have Z10 : n0 ≤ h10.size := Nat.le_trans Z5 (Keep.of_wr W10).1
  have pre14 : ∀ t, Steps p.tables e below (T10.setTop (mkF m 16 #[.val (.ref a1), .val (.int p2)] [])) t → Steps p.tables e below (s₁.setTop (entryFrame m #[(.ref a1), (.int p2)] 2)) t := fun t_ k_ => pre0 t_ (by
      refine XS.aloadN X0.here hx rfl (hb hby dA_0) rfl rfl ?_
      show Steps p.tables e below (s₁.setTop (mkF m 1 #[.val (.ref a1), .val (.int p2)] [(.ref a1)])) _
      refine st1 _ ?_
      show Steps p.tables e below (T1.setTop (mkF m 4 #[.val (.ref a1), .val (.int p2)] [])) _
      refine XS.aloadN X1.here hx rfl (hb hby dA_4) rfl rfl ?_
      show Steps p.tables e below (T1.setTop (mkF m 5 #[.val (.ref a1), .val (.int p2)] [(.ref a1)])) _
      refine XS.iconst X1.here hx rfl (hb hby dA_5) ?_
      show Steps p.tables e below (T1.setTop (mkF m 6 #[.val (.ref a1), .val (.int p2)] [(.int (0 : Int32)), (.ref a1)])) _
      refine st2 _ ?_
      show Steps p.tables e below (T2.setTop (mkF m 9 #[.val (.ref a1), .val (.int p2)] [])) _
      refine XS.aloadN X2.here hx rfl (hb hby dA_9) rfl rfl ?_
      show Steps p.tables e below (T2.setTop (mkF m 10 #[.val (.ref a1), .val (.int p2)] [(.ref a1)])) _
      refine XS.iloadN X2.here hx rfl (hb hby dA_10) rfl ?_
      show Steps p.tables e below (T2.setTop (mkF m 11 #[.val (.ref a1), .val (.int p2)] [(.int p2), (.ref a1)])) _
      refine st5 _ ?_
      show Steps p.tables e below (T5.setTop (mkF m 13 #[.val (.ref a1), .val (.int p2)] [(.ref b9), (.ref a1)])) _
      refine st10 _ ?_
      show Steps p.tables e below (T10.setTop (mkF m 16 #[.val (.ref a1), .val (.int p2)] [])) _
      exact k_)
  obtain ⟨fs, hr, hrun, hended, hW, hsame⟩ := X10.leave (v := none) (fun _ => rfl)
  refine ⟨_, _, pre14 _ ?_, hrun, hended, _, _, rfl, ?_, ⟨_, rfl⟩, hW, hsame.mono (by decide) (by decide)⟩
  · exact X10.returnOut hx Bd.returns (hb hby dA_16) hr
  · show QA Z a1 p2 h0 n0 _ T10.heap _
    rw [e10]
    exact ⟨rfl, N10, K10, f12, b9, gg5, sz5, Fw10, f13⟩
theorem dT_0 : decode prog_8_method_4_code 0 = .ok (.aload_n 0, 1) := by decide +kernel
theorem dT_1 : decode prog_8_method_4_code 1 = .ok (.getfield 7, 3) := by decide +kernel
theorem dT_4 : decode prog_8_method_4_code 4 = .ok (.ifCond .ne 7, 3) := by decide +kernel
theorem dT_7 : decode prog_8_method_4_code 7 = .ok (.lconst 0, 1) := by decide +kernel
theorem dT_8 : decode prog_8_method_4_code 8 = .ok (.goto 14, 3) := by decide +kernel
theorem dT_11 : decode prog_8_method_4_code 11 = .ok (.aload_n 0, 1) := by decide +kernel
theorem dT_12 : decode prog_8_method_4_code 12 = .ok (.getfield 13, 3) := by decide +kernel
theorem dT_15 : decode prog_8_method_4_code 15 = .ok (.aload_n 0, 1) := by decide +kernel
theorem dT_16 : decode prog_8_method_4_code 16 = .ok (.getfield 7, 3) := by decide +kernel
theorem dT_19 : decode prog_8_method_4_code 19 = .ok (.iconst 1, 1) := by decide +kernel
theorem dT_20 : decode prog_8_method_4_code 20 = .ok (.isub, 1) := by decide +kernel
theorem dT_21 : decode prog_8_method_4_code 21 = .ok (.laload, 1) := by decide +kernel
theorem dT_22 : decode prog_8_method_4_code 22 = .ok (.lreturn, 1) := by decide +kernel
theorem pnT : plainName "com/example/trigonal/trigonal/CumulativeWeights" = true := by first | (simp [plainName, overriddenIn]; done) | decide +kernel
theorem efT (m : MethodId) (a1 : Addr) : entryFrame m #[(.ref a1)] 1 = mkF m 0 #[.val (.ref a1)] [] := by first | (simp [entryFrame, mkF, argsToLocals, Value.category]; done) | rfl
def QT (Z : State) (a1 : Addr) (sz : Int32) (b : Addr) (G : Nat → Value) (ps : List Int64) (h0 : Heap) (n0 : Nat) (v : Option Value) (h : Heap) (L : List Loc) : Prop := v = some (.long (ps.getLastD 0)) ∧ Fr n0 L ∧ h = h0
set_option maxRecDepth 65536 in
set_option maxHeartbeats 40000000 in
theorem rmT (l : Launch) (Z : State) (a0 : Array Value) (hw : ∀ d ∈ tables_1, d.before a0 Z = true) (ws : List Jvm.Cond) (a1 : Addr) (sz : Int32) (b : Addr) (G : Nat → Value) (ps : List Int64) (h0 : Heap) (n0 : Nat) (Z0 : n0 ≤ h0.size) (F1 : Fld Z h0 a1 "com/example/trigonal/trigonal/CumulativeWeights" "size" "I" (.int sz)) (F2 : Fld Z h0 a1 "com/example/trigonal/trigonal/CumulativeWeights" "sums" "[J" (.ref b)) (A1 : OArr Z h0 b .long 4 G) (HS : own_S sz G ps) (hl : ps.length ≤ 4) :
    MetFree l (⟨"com/example/trigonal/trigonal/CumulativeWeights", "total", "()J"⟩ : MethodName) (head1 (Jvm.Cond.code (⟨"com/example/trigonal/trigonal/CumulativeWeights", "total", "()J"⟩ : MethodName) prog_8_method_4_code 1 (some .long) :: ws) ({ frames := 0, cells := 0, slots := 0, locals := 0 } : Room)) (fun a U => a = #[(.ref a1)] ∧ Z.Warmed39 U.vm ∧ U.heap = h0) (fun _ _ _ _ _ => True) (fun _ U o U' => ∃ v L, o = .returned v ∧ QT Z a1 sz b G ps h0 n0 v U'.heap L ∧ FrameEnd U o U' L ({ frames := 0, cells := 0, slots := 0, locals := 0 } : Room).cells ({ frames := 0, cells := 0, slots := 0, locals := 0 } : Room).slots) := by
  refine MetFree.of_bodySF (plainFor_of_name pnT) hisR ?_
  intro p e s m args below meth c s₁ Bd hml0 hP hK
  obtain ⟨rfl, hZ, hh⟩ := hP
  have hx := Bd.exec
  have hby := Bd.bytes
  have hml : c.maxLocals = 1 := hml0
  have hown : s.vm.findClass "com/example/trigonal/trigonal/CumulativeWeights" = some m.cls := findClass_of_methodNamed Bd.named
  have hnm := (name_of_methodNamed Bd.named Bd.method).1
  have X0 : Stand p l e ({ frames := 0, cells := 0, slots := 0, locals := 0 } : Room) s m #[(.ref a1)] below meth c s₁ [] 0 0 := Stand.of_body Bd
  have e0 : s₁.heap = h0 := by rw [← hh, Bd.state]; rfl
  have N0 := Fr.nil n0
  have pre0 : ∀ t, Steps p.tables e below (s₁.setTop (mkF m 0 #[.val (.ref a1)] [])) t → Steps p.tables e below (s₁.setTop (entryFrame m #[(.ref a1)] 1)) t := fun t k => castTop (efT m a1) k
  obtain ⟨T1, X1, e1, st1⟩ := getF X0 hx hZ hown (host := "") (Or.inl (hw _ (List.mem_of_getElem? (i := 10) rfl))) Via.refl e0 F1 (g := (mkF m 1 #[.val (.ref a1)] [(.ref a1)])) rfl rfl (hb hby dT_1)
  have pre2 : ∀ t, Steps p.tables e below (T1.setTop (mkF m 4 #[.val (.ref a1)] [(.int sz)])) t → Steps p.tables e below (s₁.setTop (entryFrame m #[(.ref a1)] 1)) t := fun t_ k_ => pre0 t_ (by
      refine XS.aloadN X0.here hx rfl (hb hby dT_0) rfl rfl ?_
      show Steps p.tables e below (s₁.setTop (mkF m 1 #[.val (.ref a1)] [(.ref a1)])) _
      refine st1 _ ?_
      show Steps p.tables e below (T1.setTop (mkF m 4 #[.val (.ref a1)] [(.int sz)])) _
      exact k_)
  by_cases c4_3 : sz = (0 : Int32)
  · have pre4 : ∀ t, Steps p.tables e below (T1.setTop (mkF m 22 #[.val (.ref a1)] [(.long (0 : Int64))])) t → Steps p.tables e below (s₁.setTop (entryFrame m #[(.ref a1)] 1)) t := fun t_ k_ => pre2 t_ (by
        refine XS.ifNo X1.here hx rfl (hb hby dT_4) rfl ((if0 _ _).trans (teq c4_3).2) ?_
        show Steps p.tables e below (T1.setTop (mkF m 7 #[.val (.ref a1)] [])) _
        refine XS.lconst X1.here hx rfl (hb hby dT_7) ?_
        show Steps p.tables e below (T1.setTop (mkF m 8 #[.val (.ref a1)] [(.long (0 : Int64))])) _
        refine XS.goto X1.here hx rfl (pc0 := 8) (pc' := 22) rfl (hb hby dT_8) (by decide) (by decide) ?_
        show Steps p.tables e below (T1.setTop (mkF m 22 #[.val (.ref a1)] [(.long (0 : Int64))])) _
        exact k_)
    obtain ⟨fs, hr, hrun, hended, hW, hsame⟩ := X1.leave (v := some (.long (0 : Int64))) (fun h => by rw [Bd.returns] at h; cases h)
    refine ⟨_, _, pre4 _ ?_, hrun, hended, _, _, rfl, ?_, ⟨_, rfl⟩, hW, hsame.mono (by decide) (by decide)⟩
    · exact X1.lreturnOut hx Bd.returns (hb hby dT_22) hr
    · show QT Z a1 sz b G ps h0 n0 _ T1.heap _
      rw [e1]
      exact ⟨by
        have q : ps.length = 0 := by have := HS.1; rw [c4_3] at this; exact (Int.ofNat.inj this).symm
        rw [List.length_eq_zero_iff.mp q]; rfl, N0, rfl⟩
  · obtain ⟨T5, X5, e5, st5⟩ := getF X1 hx hZ hown (host := "") (Or.inl (hw _ (List.mem_of_getElem? (i := 13) rfl))) Via.refl e1 F2 (g := (mkF m 12 #[.val (.ref a1)] [(.ref a1)])) rfl rfl (hb hby dT_12)
    obtain ⟨T6, X6, e6, st6⟩ := getF X5 hx hZ hown (host := "") (Or.inl (hw _ (List.mem_of_getElem? (i := 10) rfl))) Via.refl e5 F1 (g := (mkF m 16 #[.val (.ref a1)] [(.ref a1), (.ref b)])) rfl rfl (hb hby dT_16)
    obtain ⟨k, hk⟩ : ∃ k, ps.length = k + 1 := ⟨ps.length - 1, by
      have q := HS.1
      have q2 : ¬ sz.toInt = 0 := fun z => c4_3 (Int32.toInt_inj.mp z)
      omega⟩
    have hsz : sz.toInt = ((k + 1 : Nat) : Int) := by rw [HS.1, hk]
    have pre7 : ∀ t, Steps p.tables e below (T6.setTop (mkF m 22 #[.val (.ref a1)] [(.long (ps.getD k 0))])) t → Steps p.tables e below (s₁.setTop (entryFrame m #[(.ref a1)] 1)) t := fun t_ k_ => pre2 t_ (by
        refine XS.ifYes X1.here hx rfl (pc0 := 4) (pc' := 11) rfl (hb hby dT_4) rfl ((if0 _ _).trans (feq c4_3).2) (by decide) (by decide) ?_
        show Steps p.tables e below (T1.setTop (mkF m 11 #[.val (.ref a1)] [])) _
        refine XS.aloadN X1.here hx rfl (hb hby dT_11) rfl rfl ?_
        show Steps p.tables e below (T1.setTop (mkF m 12 #[.val (.ref a1)] [(.ref a1)])) _
        refine st5 _ ?_
        show Steps p.tables e below (T5.setTop (mkF m 15 #[.val (.ref a1)] [(.ref b)])) _
        refine XS.aloadN X5.here hx rfl (hb hby dT_15) rfl rfl ?_
        show Steps p.tables e below (T5.setTop (mkF m 16 #[.val (.ref a1)] [(.ref a1), (.ref b)])) _
        refine st6 _ ?_
        show Steps p.tables e below (T6.setTop (mkF m 19 #[.val (.ref a1)] [(.int sz), (.ref b)])) _
        refine XS.iconst X6.here hx rfl (hb hby dT_19) ?_
        show Steps p.tables e below (T6.setTop (mkF m 20 #[.val (.ref a1)] [(.int (1 : Int32)), (.int sz), (.ref b)])) _
        refine XS.isub X6.here hx rfl (hb hby dT_20) rfl ?_
        show Steps p.tables e below (T6.setTop (mkF m 21 #[.val (.ref a1)] [(.int (sz - (1 : Int32))), (.ref b)])) _
        refine oLdJ X6 hx hZ e6 A1 (k := k) (own_dec hsz (by omega)) (by omega) (v := (ps.getD k 0)) (HS.2 k (by omega)) (g := (mkF m 21 #[.val (.ref a1)] [(.int (sz - (1 : Int32))), (.ref b)])) rfl rfl (hb hby dT_21) _ ?_
        show Steps p.tables e below (T6.setTop (mkF m 22 #[.val (.ref a1)] [(.long (ps.getD k 0))])) _
        exact k_)
    obtain ⟨fs, hr, hrun, hended, hW, hsame⟩ := X6.leave (v := some (.long (ps.getD k 0))) (fun h => by rw [Bd.returns] at h; cases h)
    refine ⟨_, _, pre7 _ ?_, hrun, hended, _, _, rfl, ?_, ⟨_, rfl⟩, hW, hsame.mono (by decide) (by decide)⟩
    · exact X6.lreturnOut hx Bd.returns (hb hby dT_22) hr
    · show QT Z a1 sz b G ps h0 n0 _ T6.heap _
      rw [e6]
      exact ⟨by rw [own_last ps hk], N0, rfl⟩
theorem dD_0 : decode prog_8_method_2_code 0 = .ok (.aload_n 0, 1) := by decide +kernel
theorem dD_1 : decode prog_8_method_2_code 1 = .ok (.getfield 13, 3) := by decide +kernel
theorem dD_4 : decode prog_8_method_2_code 4 = .ok (.aload_n 0, 1) := by decide +kernel
theorem dD_5 : decode prog_8_method_2_code 5 = .ok (.getfield 7, 3) := by decide +kernel
theorem dD_8 : decode prog_8_method_2_code 8 = .ok (.aload_n 0, 1) := by decide +kernel
theorem dD_9 : decode prog_8_method_2_code 9 = .ok (.invokevirtual 17, 3) := by decide +kernel
theorem dD_12 : decode prog_8_method_2_code 12 = .ok (.lload_n 1, 1) := by decide +kernel
theorem dD_13 : decode prog_8_method_2_code 13 = .ok (.ladd, 1) := by decide +kernel
theorem dD_14 : decode prog_8_method_2_code 14 = .ok (.lastore, 1) := by decide +kernel
theorem dD_15 : decode prog_8_method_2_code 15 = .ok (.aload_n 0, 1) := by decide +kernel
theorem dD_16 : decode prog_8_method_2_code 16 = .ok (.dup, 1) := by decide +kernel
theorem dD_17 : decode prog_8_method_2_code 17 = .ok (.getfield 7, 3) := by decide +kernel
theorem dD_20 : decode prog_8_method_2_code 20 = .ok (.iconst 1, 1) := by decide +kernel
theorem dD_21 : decode prog_8_method_2_code 21 = .ok (.iadd, 1) := by decide +kernel
theorem dD_22 : decode prog_8_method_2_code 22 = .ok (.putfield 7, 3) := by decide +kernel
theorem dD_25 : decode prog_8_method_2_code 25 = .ok (.return_, 1) := by decide +kernel
theorem pdD_0 : parseMethodDescriptor "()J" = some ⟨[], some .long⟩ := by decide +kernel
theorem pnD : plainName "com/example/trigonal/trigonal/CumulativeWeights" = true := by first | (simp [plainName, overriddenIn]; done) | decide +kernel
theorem efD (m : MethodId) (a1 : Addr) (q2 : Int64) : entryFrame m #[(.ref a1), (.long q2)] 3 = mkF m 0 #[.val (.ref a1), .val (.long q2), .second] [] := by first | (simp [entryFrame, mkF, argsToLocals, Value.category]; done) | rfl
def QD (Z : State) (a1 : Addr) (q2 : Int64) (sz : Int32) (b : Addr) (G : Nat → Value) (ps : List Int64) (h0 : Heap) (n0 : Nat) (v : Option Value) (h : Heap) (L : List Loc) : Prop := v = none ∧ Fr n0 L ∧ Keep h0 h [b, a1] ∧ Fld Z h a1 "com/example/trigonal/trigonal/CumulativeWeights" "size" "I" (.int (sz + (1 : Int32))) ∧ Fld Z h a1 "com/example/trigonal/trigonal/CumulativeWeights" "sums" "[J" (.ref b) ∧ OArr Z h b .long 4 (oUpd G ps.length (.long (ps.getLastD 0 + q2))) ∧ own_S (sz + (1 : Int32)) (oUpd G ps.length (.long (ps.getLastD 0 + q2))) (ps ++ [ps.getLastD 0 + q2])
set_option maxRecDepth 65536 in
set_option maxHeartbeats 40000000 in
theorem rmD (l : Launch) (Z : State) (a0 : Array Value) (hw : ∀ d ∈ tables_1, d.before a0 Z = true) (ws : List Jvm.Cond) (a1 : Addr) (q2 : Int64) (sz : Int32) (b : Addr) (G : Nat → Value) (ps : List Int64) (h0 : Heap) (n0 : Nat) (Z0 : n0 ≤ h0.size) (F1 : Fld Z h0 a1 "com/example/trigonal/trigonal/CumulativeWeights" "size" "I" (.int sz)) (F2 : Fld Z h0 a1 "com/example/trigonal/trigonal/CumulativeWeights" "sums" "[J" (.ref b)) (A1 : OArr Z h0 b .long 4 G) (HS : own_S sz G ps) (hl : ps.length < 4) (E1 : Exa Z h0 a1 "com/example/trigonal/trigonal/CumulativeWeights") (ne1 : a1 ≠ b) (g1 : n0 ≤ a1) (g2 : n0 ≤ b) :
    MetFree l (⟨"com/example/trigonal/trigonal/CumulativeWeights", "add", "(J)V"⟩ : MethodName) (head1 (Jvm.Cond.code (⟨"com/example/trigonal/trigonal/CumulativeWeights", "add", "(J)V"⟩ : MethodName) prog_8_method_2_code 3 none :: ws) ({ frames := 1, cells := 0, slots := 0, locals := 14 } : Room)) (fun a U => a = #[(.ref a1), (.long q2)] ∧ Z.Warmed39 U.vm ∧ U.heap = h0) (fun _ _ _ _ _ => True) (fun _ U o U' => ∃ v L, o = .returned v ∧ QD Z a1 q2 sz b G ps h0 n0 v U'.heap L ∧ FrameEnd U o U' L ({ frames := 1, cells := 0, slots := 0, locals := 14 } : Room).cells ({ frames := 1, cells := 0, slots := 0, locals := 14 } : Room).slots) := by
  refine MetFree.of_bodySF (plainFor_of_name pnD) hisR ?_
  intro p e s m args below meth c s₁ Bd hml0 hP hK
  obtain ⟨rfl, hZ, hh⟩ := hP
  have hx := Bd.exec
  have hby := Bd.bytes
  have hml : c.maxLocals = 3 := hml0
  have hown : s.vm.findClass "com/example/trigonal/trigonal/CumulativeWeights" = some m.cls := findClass_of_methodNamed Bd.named
  have hnm := (name_of_methodNamed Bd.named Bd.method).1
  have X0 : Stand p l e ({ frames := 1, cells := 0, slots := 0, locals := 14 } : Room) s m #[(.ref a1), (.long q2)] below meth c s₁ [] 0 0 := Stand.of_body Bd
  have e0 : s₁.heap = h0 := by rw [← hh, Bd.state]; rfl
  have N0 := Fr.nil n0
  have pre0 : ∀ t, Steps p.tables e below (s₁.setTop (mkF m 0 #[.val (.ref a1), .val (.long q2), .second] [])) t → Steps p.tables e below (s₁.setTop (entryFrame m #[(.ref a1), (.long q2)] 3)) t := fun t k => castTop (efD m a1 q2) k
  obtain ⟨T1, X1, e1, st1⟩ := getF X0 hx hZ hown (host := "") (Or.inl (hw _ (List.mem_of_getElem? (i := 13) rfl))) Via.refl e0 F2 (g := (mkF m 1 #[.val (.ref a1), .val (.long q2), .second] [(.ref a1)])) rfl rfl (hb hby dD_1)
  obtain ⟨T2, X2, e2, st2⟩ := getF X1 hx hZ hown (host := "") (Or.inl (hw _ (List.mem_of_getElem? (i := 10) rfl))) Via.refl e1 F1 (g := (mkF m 5 #[.val (.ref a1), .val (.long q2), .second] [(.ref a1), (.ref b)])) rfl rfl (hb hby dD_5)
  obtain ⟨cq3, kq3, q3a, q3b, q3c⟩ := isOf hZ e2 E1
  obtain ⟨_, _, ⟨T3, L3, k3, n3⟩, -, X3, ⟨Lc3, hQ3, l3, y3, z3⟩, st3⟩ := X2.virtualBack hx (y := (⟨"com/example/trigonal/trigonal/CumulativeWeights", "total", "()J"⟩ : MethodName)) (z := (⟨"com/example/trigonal/trigonal/CumulativeWeights", "total", "()J"⟩ : MethodName)) hown (mvT hZ (hw _ (List.mem_of_getElem? (i := 20) rfl))) (mvT hZ (hw _ (List.mem_of_getElem? (i := 21) rfl))) (notFace_of_selects (args := #[]) (mvT hZ (hw _ (List.mem_of_getElem? (i := 23) rfl)))) (mvT hZ (hw _ (List.mem_of_getElem? (i := 23) rfl))) (mvT hZ (hw _ (List.mem_of_getElem? (i := 22) rfl))) (by decide) (backOf (W := 2) (rmT l Z a0 hw [] a1 sz b G ps h0 n0 Z0 F1 F2 A1 HS (by omega)) hZ (hw _ (List.mem_of_getElem? (i := 24) rfl)) (hw _ (List.mem_of_getElem? (i := 3) rfl)) (by decide) (by decide)) q3a q3c (g := (mkF m 9 #[.val (.ref a1), .val (.long q2), .second] [(.ref a1), (.int sz), (.ref b)])) rfl (by rw [hml]; rfl) (Steps.refl _) (argsL := []) (rest := [(.int sz), (.ref b)]) (lenOf pdD_0 rfl) rfl (by show 2 * 0 + _ ≤ _; exact Nat.le_of_eq rfl) (hb hby dD_9) (fun _ _ => ⟨rfl, e2, (by decide : 0 + 0 ≤ _), (by decide : 0 + 0 ≤ _)⟩)
  dsimp only [Pt.U, Pt.locs, Pt.cells, Pt.slots] at X3 l3 y3 z3 st3 hQ3
  subst l3 y3 z3
  obtain ⟨rfl, N3q, e3⟩ := hQ3
  have N3 := Fr.app N0 N3q
  obtain ⟨T4, h4, X4, e4, W4, A4, st4⟩ := oStJ X3 hx hZ e3 A1 (k := ps.length) HS.1 hl (g := (mkF m 14 #[.val (.ref a1), .val (.long q2), .second] [(.long ((ps.getLastD 0) + q2)), (.int sz), (.ref b)])) rfl rfl (hb hby dD_14)
  have f5 := F1.other W4 (Or.inl ne1)
  have f6 := F2.other W4 (Or.inl ne1)
  have f7 := E1.wr W4
  have N4 := Fr.snoc X4 N3 g2
  have K4 := (Keep.refl h0 [b, a1]).wr W4 (Or.inl (List.mem_of_getElem? (i := 0) rfl))
  have Z4 : n0 ≤ h4.size := Nat.le_trans Z0 (Keep.of_wr W4).1
  obtain ⟨T8, X8, e8, st8⟩ := getF X4 hx hZ hown (host := "") (Or.inl (hw _ (List.mem_of_getElem? (i := 10) rfl))) Via.refl e4 f5 (g := (mkF m 17 #[.val (.ref a1), .val (.long q2), .second] [(.ref a1), (.ref a1)])) rfl rfl (hb hby dD_17)
  obtain ⟨T9, h9, X9, e9, W9, st9⟩ := putF X8 hx hZ hown (host := "") (Or.inl (hw _ (List.mem_of_getElem? (i := 10) rfl))) Via.refl e8 f5 f7 (Or.inl (hw _ (List.mem_of_getElem? (i := 11) rfl))) (hw _ (List.mem_of_getElem? (i := 2) rfl)) (ty := .int) (by decide) rfl rfl (g := (mkF m 22 #[.val (.ref a1), .val (.long q2), .second] [(.int (sz + (1 : Int32))), (.ref a1)])) rfl rfl (hb hby dD_22)
  have Fw9 := f5.same W9
  have f10 := f6.other W9 (Or.inr (slot_ne (Or.inr (hw _ (List.mem_of_getElem? (i := 14) rfl))) (Or.inl (hw _ (List.mem_of_getElem? (i := 11) rfl))) (by decide) (t := (.array .long)) (t' := .int) (by decide) (by decide)))
  have f11 := A4.other W9 (Ne.symm ne1)
  have f12 := f7.wr W9
  have N9 := Fr.snoc X9 N4 g1
  have K9 := K4.wr W9 (Or.inl (List.mem_of_getElem? (i := 1) rfl))
  have Z9 : n0 ≤ h9.size := Nat.le_trans Z4 (Keep.of_wr W9).1
  have pre13 : ∀ t, Steps p.tables e below (T9.setTop (mkF m 25 #[.val (.ref a1), .val (.long q2), .second] [])) t → Steps p.tables e below (s₁.setTop (entryFrame m #[(.ref a1), (.long q2)] 3)) t := fun t_ k_ => pre0 t_ (by
      refine XS.aloadN X0.here hx rfl (hb hby dD_0) rfl rfl ?_
      show Steps p.tables e below (s₁.setTop (mkF m 1 #[.val (.ref a1), .val (.long q2), .second] [(.ref a1)])) _
      refine st1 _ ?_
      show Steps p.tables e below (T1.setTop (mkF m 4 #[.val (.ref a1), .val (.long q2), .second] [(.ref b)])) _
      refine XS.aloadN X1.here hx rfl (hb hby dD_4) rfl rfl ?_
      show Steps p.tables e below (T1.setTop (mkF m 5 #[.val (.ref a1), .val (.long q2), .second] [(.ref a1), (.ref b)])) _
      refine st2 _ ?_
      show Steps p.tables e below (T2.setTop (mkF m 8 #[.val (.ref a1), .val (.long q2), .second] [(.int sz), (.ref b)])) _
      refine XS.aloadN X2.here hx rfl (hb hby dD_8) rfl rfl ?_
      show Steps p.tables e below (T2.setTop (mkF m 9 #[.val (.ref a1), .val (.long q2), .second] [(.ref a1), (.int sz), (.ref b)])) _
      refine st3.trans ?_
      show Steps p.tables e below (T3.setTop (mkF m 12 #[.val (.ref a1), .val (.long q2), .second] [(.long (ps.getLastD 0)), (.int sz), (.ref b)])) _
      refine XS.lloadN X3.here hx rfl (hb hby dD_12) rfl ?_
      show Steps p.tables e below (T3.setTop (mkF m 13 #[.val (.ref a1), .val (.long q2), .second] [(.long q2), (.long (ps.getLastD 0)), (.int sz), (.ref b)])) _
      refine XS.ladd X3.here hx rfl (hb hby dD_13) rfl ?_
      show Steps p.tables e below (T3.setTop (mkF m 14 #[.val (.ref a1), .val (.long q2), .second] [(.long ((ps.getLastD 0) + q2)), (.int sz), (.ref b)])) _
      refine st4 _ ?_
      show Steps p.tables e below (T4.setTop (mkF m 15 #[.val (.ref a1), .val (.long q2), .second] [])) _
      refine XS.aloadN X4.here hx rfl (hb hby dD_15) rfl rfl ?_
      show Steps p.tables e below (T4.setTop (mkF m 16 #[.val (.ref a1), .val (.long q2), .second] [(.ref a1)])) _
      refine XS.dup X4.here hx rfl (hb hby dD_16) rfl rfl ?_
      show Steps p.tables e below (T4.setTop (mkF m 17 #[.val (.ref a1), .val (.long q2), .second] [(.ref a1), (.ref a1)])) _
      refine st8 _ ?_
      show Steps p.tables e below (T8.setTop (mkF m 20 #[.val (.ref a1), .val (.long q2), .second] [(.int sz), (.ref a1)])) _
      refine XS.iconst X8.here hx rfl (hb hby dD_20) ?_
      show Steps p.tables e below (T8.setTop (mkF m 21 #[.val (.ref a1), .val (.long q2), .second] [(.int (1 : Int32)), (.int sz), (.ref a1)])) _
      refine XS.iadd X8.here hx rfl (hb hby dD_21) rfl ?_
      show Steps p.tables e below (T8.setTop (mkF m 22 #[.val (.ref a1), .val (.long q2), .second] [(.int (sz + (1 : Int32))), (.ref a1)])) _
      refine st9 _ ?_
      show Steps p.tables e below (T9.setTop (mkF m 25 #[.val (.ref a1), .val (.long q2), .second] [])) _
      exact k_)
  obtain ⟨fs, hr, hrun, hended, hW, hsame⟩ := X9.leave (v := none) (fun _ => rfl)
  refine ⟨_, _, pre13 _ ?_, hrun, hended, _, _, rfl, ?_, ⟨_, rfl⟩, hW, hsame.mono (by decide) (by decide)⟩
  · exact X9.returnOut hx Bd.returns (hb hby dD_25) hr
  · show QD Z a1 q2 sz b G ps h0 n0 _ T9.heap _
    rw [e9]
    exact ⟨rfl, N9, K9, Fw9, f10, f11, HS.add (by omega) _⟩
theorem dX_0 : decode prog_8_method_6_code 0 = .ok (.iconst 0, 1) := by decide +kernel
theorem dX_1 : decode prog_8_method_6_code 1 = .ok (.istore_n 3, 1) := by decide +kernel
theorem dX_2 : decode prog_8_method_6_code 2 = .ok (.aload_n 0, 1) := by decide +kernel
theorem dX_3 : decode prog_8_method_6_code 3 = .ok (.getfield 7, 3) := by decide +kernel
theorem dX_6 : decode prog_8_method_6_code 6 = .ok (.iconst 1, 1) := by decide +kernel
theorem dX_7 : decode prog_8_method_6_code 7 = .ok (.isub, 1) := by decide +kernel
theorem dX_8 : decode prog_8_method_6_code 8 = .ok (.istore 4, 2) := by decide +kernel
theorem dX_10 : decode prog_8_method_6_code 10 = .ok (.iload_n 3, 1) := by decide +kernel
theorem dX_11 : decode prog_8_method_6_code 11 = .ok (.iload 4, 2) := by decide +kernel
theorem dX_13 : decode prog_8_method_6_code 13 = .ok (.if_icmp .ge 38, 3) := by decide +kernel
theorem dX_16 : decode prog_8_method_6_code 16 = .ok (.iload_n 3, 1) := by decide +kernel
theorem dX_17 : decode prog_8_method_6_code 17 = .ok (.iload 4, 2) := by decide +kernel
theorem dX_19 : decode prog_8_method_6_code 19 = .ok (.iadd, 1) := by decide +kernel
theorem dX_20 : decode prog_8_method_6_code 20 = .ok (.iconst 1, 1) := by decide +kernel
theorem dX_21 : decode prog_8_method_6_code 21 = .ok (.iushr, 1) := by decide +kernel
theorem dX_22 : decode prog_8_method_6_code 22 = .ok (.istore 5, 2) := by decide +kernel
theorem dX_24 : decode prog_8_method_6_code 24 = .ok (.aload_n 0, 1) := by decide +kernel
theorem dX_25 : decode prog_8_method_6_code 25 = .ok (.getfield 13, 3) := by decide +kernel
theorem dX_28 : decode prog_8_method_6_code 28 = .ok (.iload 5, 2) := by decide +kernel
theorem dX_30 : decode prog_8_method_6_code 30 = .ok (.laload, 1) := by decide +kernel
theorem dX_31 : decode prog_8_method_6_code 31 = .ok (.lload_n 1, 1) := by decide +kernel
theorem dX_32 : decode prog_8_method_6_code 32 = .ok (.lcmp, 1) := by decide +kernel
theorem dX_33 : decode prog_8_method_6_code 33 = .ok (.ifCond .gt 11, 3) := by decide +kernel
theorem dX_36 : decode prog_8_method_6_code 36 = .ok (.iload 5, 2) := by decide +kernel
theorem dX_38 : decode prog_8_method_6_code 38 = .ok (.iconst 1, 1) := by decide +kernel
theorem dX_39 : decode prog_8_method_6_code 39 = .ok (.iadd, 1) := by decide +kernel
theorem dX_40 : decode prog_8_method_6_code 40 = .ok (.istore_n 3, 1) := by decide +kernel
theorem dX_41 : decode prog_8_method_6_code 41 = .ok (.goto 7, 3) := by decide +kernel
theorem dX_44 : decode prog_8_method_6_code 44 = .ok (.iload 5, 2) := by decide +kernel
theorem dX_46 : decode prog_8_method_6_code 46 = .ok (.istore 4, 2) := by decide +kernel
theorem dX_48 : decode prog_8_method_6_code 48 = .ok (.goto (-38), 3) := by decide +kernel
theorem dX_51 : decode prog_8_method_6_code 51 = .ok (.iload_n 3, 1) := by decide +kernel
theorem dX_52 : decode prog_8_method_6_code 52 = .ok (.ireturn, 1) := by decide +kernel
theorem pnX : plainName "com/example/trigonal/trigonal/CumulativeWeights" = true := by first | (simp [plainName, overriddenIn]; done) | decide +kernel
theorem efX (m : MethodId) (a1 : Addr) (q2 : Int64) : entryFrame m #[(.ref a1), (.long q2)] 6 = mkF m 0 #[.val (.ref a1), .val (.long q2), .second, .unset, .unset, .unset] [] := by first | (simp [entryFrame, mkF, argsToLocals, Value.category]; done) | rfl
def QX (Z : State) (a1 : Addr) (q2 : Int64) (sz : Int32) (b : Addr) (G : Nat → Value) (ps : List Int64) (h0 : Heap) (n0 : Nat) (v : Option Value) (h : Heap) (L : List Loc) : Prop := Fr n0 L ∧ h = h0 ∧ ∃ (r : Int32) (k : Nat), v = some (.int r) ∧ r.toInt = (k : Int) ∧ k < ps.length ∧ (∀ j, j < k → (ps.getD j 0).toInt ≤ q2.toInt) ∧ q2.toInt < (ps.getD k 0).toInt
set_option maxRecDepth 65536 in
set_option maxHeartbeats 40000000 in
theorem rmX (l : Launch) (Z : State) (a0 : Array Value) (hw : ∀ d ∈ tables_1, d.before a0 Z = true) (ws : List Jvm.Cond) (a1 : Addr) (q2 : Int64) (sz : Int32) (b : Addr) (G : Nat → Value) (ps : List Int64) (h0 : Heap) (n0 : Nat) (Z0 : n0 ≤ h0.size) (F1 : Fld Z h0 a1 "com/example/trigonal/trigonal/CumulativeWeights" "size" "I" (.int sz)) (F2 : Fld Z h0 a1 "com/example/trigonal/trigonal/CumulativeWeights" "sums" "[J" (.ref b)) (A1 : OArr Z h0 b .long 4 G) (HS : own_S sz G ps) (hl : ps.length ≤ 4) (h1 : 1 ≤ ps.length) (hmono : ∀ i j, i ≤ j → j < ps.length → (ps.getD i 0).toInt ≤ (ps.getD j 0).toInt) (hun : q2.toInt < (ps.getD (ps.length - 1) 0).toInt) :
    MetFree l (⟨"com/example/trigonal/trigonal/CumulativeWeights", "index", "(J)I"⟩ : MethodName) (head1 (Jvm.Cond.code (⟨"com/example/trigonal/trigonal/CumulativeWeights", "index", "(J)I"⟩ : MethodName) prog_8_method_6_code 6 (some .int) :: ws) ({ frames := 0, cells := 0, slots := 0, locals := 0 } : Room)) (fun a U => a = #[(.ref a1), (.long q2)] ∧ Z.Warmed39 U.vm ∧ U.heap = h0) (fun _ _ _ _ _ => True) (fun _ U o U' => ∃ v L, o = .returned v ∧ QX Z a1 q2 sz b G ps h0 n0 v U'.heap L ∧ FrameEnd U o U' L ({ frames := 0, cells := 0, slots := 0, locals := 0 } : Room).cells ({ frames := 0, cells := 0, slots := 0, locals := 0 } : Room).slots) := by
  refine MetFree.of_bodySF (plainFor_of_name pnX) hisR ?_
  intro p e s m args below meth c s₁ Bd hml0 hP hK
  obtain ⟨rfl, hZ, hh⟩ := hP
  have hx := Bd.exec
  have hby := Bd.bytes
  have hml : c.maxLocals = 6 := hml0
  have hown : s.vm.findClass "com/example/trigonal/trigonal/CumulativeWeights" = some m.cls := findClass_of_methodNamed Bd.named
  have hnm := (name_of_methodNamed Bd.named Bd.method).1
  have X0 : Stand p l e ({ frames := 0, cells := 0, slots := 0, locals := 0 } : Room) s m #[(.ref a1), (.long q2)] below meth c s₁ [] 0 0 := Stand.of_body Bd
  have e0 : s₁.heap = h0 := by rw [← hh, Bd.state]; rfl
  have N0 := Fr.nil n0
  have pre0 : ∀ t, Steps p.tables e below (s₁.setTop (mkF m 0 #[.val (.ref a1), .val (.long q2), .second, .unset, .unset, .unset] [])) t → Steps p.tables e below (s₁.setTop (entryFrame m #[(.ref a1), (.long q2)] 6)) t := fun t k => castTop (efX m a1 q2) k
  obtain ⟨T1, X1, e1, st1⟩ := getF X0 hx hZ hown (host := "") (Or.inl (hw _ (List.mem_of_getElem? (i := 10) rfl))) Via.refl e0 F1 (g := (mkF m 3 #[.val (.ref a1), .val (.long q2), .second, .val (.int (0 : Int32)), .unset, .unset] [(.ref a1)])) rfl rfl (hb hby dX_3)
  have pre2 : ∀ t, Steps p.tables e below (T1.setTop (mkF m 10 #[.val (.ref a1), .val (.long q2), .second, .val (.int (0 : Int32)), .val (.int (sz - (1 : Int32))), .unset] [])) t → Steps p.tables e below (s₁.setTop (entryFrame m #[(.ref a1), (.long q2)] 6)) t := fun t_ k_ => pre0 t_ (by
      refine XS.iconst X0.here hx rfl (hb hby dX_0) ?_
      show Steps p.tables e below (s₁.setTop (mkF m 1 #[.val (.ref a1), .val (.long q2), .second, .unset, .unset, .unset] [(.int (0 : Int32))])) _
      refine XS.istoreN X0.here hx rfl (hb hby dX_1) rfl (l' := #[.val (.ref a1), .val (.long q2), .second, .val (.int (0 : Int32)), .unset, .unset]) rfl ?_
      show Steps p.tables e below (s₁.setTop (mkF m 2 #[.val (.ref a1), .val (.long q2), .second, .val (.int (0 : Int32)), .unset, .unset] [])) _
      refine XS.aloadN X0.here hx rfl (hb hby dX_2) rfl rfl ?_
      show Steps p.tables e below (s₁.setTop (mkF m 3 #[.val (.ref a1), .val (.long q2), .second, .val (.int (0 : Int32)), .unset, .unset] [(.ref a1)])) _
      refine st1 _ ?_
      show Steps p.tables e below (T1.setTop (mkF m 6 #[.val (.ref a1), .val (.long q2), .second, .val (.int (0 : Int32)), .unset, .unset] [(.int sz)])) _
      refine XS.iconst X1.here hx rfl (hb hby dX_6) ?_
      show Steps p.tables e below (T1.setTop (mkF m 7 #[.val (.ref a1), .val (.long q2), .second, .val (.int (0 : Int32)), .unset, .unset] [(.int (1 : Int32)), (.int sz)])) _
      refine XS.isub X1.here hx rfl (hb hby dX_7) rfl ?_
      show Steps p.tables e below (T1.setTop (mkF m 8 #[.val (.ref a1), .val (.long q2), .second, .val (.int (0 : Int32)), .unset, .unset] [(.int (sz - (1 : Int32)))])) _
      refine XS.istore X1.here hx rfl (hb hby dX_8) rfl (l' := #[.val (.ref a1), .val (.long q2), .second, .val (.int (0 : Int32)), .val (.int (sz - (1 : Int32))), .unset]) rfl ?_
      show Steps p.tables e below (T1.setTop (mkF m 10 #[.val (.ref a1), .val (.long q2), .second, .val (.int (0 : Int32)), .val (.int (sz - (1 : Int32))), .unset] [])) _
      exact k_)
  have loop : ∀ (d lo hi : Nat) (T0 : State) (i j : Int32) (s5 : Slot), hi - lo ≤ d → lo ≤ hi → hi < ps.length → i.toInt = (lo : Int) → j.toInt = (hi : Int) → (∀ x, x < lo → (ps.getD x 0).toInt ≤ q2.toInt) → q2.toInt < (ps.getD hi 0).toInt → (s5 = .unset ∨ ∃ w, s5 = .val w ∧ w.category = 1) → Stand p l e ({ frames := 0, cells := 0, slots := 0, locals := 0 } : Room) s m #[(.ref a1), (.long q2)] below meth c T0 [] 0 0 → T0.heap = h0 →
      ∃ (T' : State) (k : Nat) (i' j' : Int32) (s5' : Slot), Stand p l e ({ frames := 0, cells := 0, slots := 0, locals := 0 } : Room) s m #[(.ref a1), (.long q2)] below meth c T' [] 0 0 ∧ T'.heap = h0 ∧ i'.toInt = (k : Int) ∧ k < ps.length ∧ (∀ x, x < k → (ps.getD x 0).toInt ≤ q2.toInt) ∧ q2.toInt < (ps.getD k 0).toInt ∧ ∀ t, Steps p.tables e below (T'.setTop (mkF m 51 #[.val (.ref a1), .val (.long q2), .second, .val (.int i'), .val (.int j'), s5'] [])) t → Steps p.tables e below (T0.setTop (mkF m 10 #[.val (.ref a1), .val (.long q2), .second, .val (.int i), .val (.int j), s5] [])) t := by
    intro d
    induction d with
    | zero =>
      intro lo hi T0 i j s5 hd hlh hhi hi1 hj1 hlo hun hs5 X0 e0
      obtain rfl : lo = hi := by omega
      have pre3 : ∀ t, Steps p.tables e below (T0.setTop (mkF m 51 #[.val (.ref a1), .val (.long q2), .second, .val (.int i), .val (.int j), s5] [])) t → Steps p.tables e below (T0.setTop (mkF m 10 #[.val (.ref a1), .val (.long q2), .second, .val (.int i), .val (.int j), s5] [])) t := fun t_ k_ => (by
          refine XS.iloadN X0.here hx rfl (hb hby dX_10) rfl ?_
          show Steps p.tables e below (T0.setTop (mkF m 11 #[.val (.ref a1), .val (.long q2), .second, .val (.int i), .val (.int j), s5] [(.int i)])) _
          refine XS.iload X0.here hx rfl (hb hby dX_11) rfl ?_
          show Steps p.tables e below (T0.setTop (mkF m 13 #[.val (.ref a1), .val (.long q2), .second, .val (.int i), .val (.int j), s5] [(.int j), (.int i)])) _
          refine XS.icmpYes X0.here hx rfl (pc0 := 13) (pc' := 51) rfl (hb hby dX_13) rfl (flt (own_nlt hi1 hj1 (by omega))).2.1 (by decide) (by decide) ?_
          show Steps p.tables e below (T0.setTop (mkF m 51 #[.val (.ref a1), .val (.long q2), .second, .val (.int i), .val (.int j), s5] [])) _
          exact k_)
      exact ⟨T0, lo, i, j, s5, X0, e0, hi1, hhi, hlo, hun, pre3⟩
    | succ d ih =>
      intro lo hi T0 i j s5 hd hlh hhi hi1 hj1 hlo hun hs5 X0 e0
      by_cases hq : lo = hi
      ·
        obtain rfl : lo = hi := by omega
        have pre4 : ∀ t, Steps p.tables e below (T0.setTop (mkF m 51 #[.val (.ref a1), .val (.long q2), .second, .val (.int i), .val (.int j), s5] [])) t → Steps p.tables e below (T0.setTop (mkF m 10 #[.val (.ref a1), .val (.long q2), .second, .val (.int i), .val (.int j), s5] [])) t := fun t_ k_ => (by
            refine XS.iloadN X0.here hx rfl (hb hby dX_10) rfl ?_
            show Steps p.tables e below (T0.setTop (mkF m 11 #[.val (.ref a1), .val (.long q2), .second, .val (.int i), .val (.int j), s5] [(.int i)])) _
            refine XS.iload X0.here hx rfl (hb hby dX_11) rfl ?_
            show Steps p.tables e below (T0.setTop (mkF m 13 #[.val (.ref a1), .val (.long q2), .second, .val (.int i), .val (.int j), s5] [(.int j), (.int i)])) _
            refine XS.icmpYes X0.here hx rfl (pc0 := 13) (pc' := 51) rfl (hb hby dX_13) rfl (flt (own_nlt hi1 hj1 (by omega))).2.1 (by decide) (by decide) ?_
            show Steps p.tables e below (T0.setTop (mkF m 51 #[.val (.ref a1), .val (.long q2), .second, .val (.int i), .val (.int j), s5] [])) _
            exact k_)
        exact ⟨T0, lo, i, j, s5, X0, e0, hi1, hhi, hlo, hun, pre4⟩
      ·
        have hlt : lo < hi := by omega
        have hmid := own_half hi1 hj1 (by omega) (by omega)
        obtain ⟨T5, X5, e5, st5⟩ := getF X0 hx hZ hown (host := "") (Or.inl (hw _ (List.mem_of_getElem? (i := 13) rfl))) Via.refl e0 F2 (g := (mkF m 25 #[.val (.ref a1), .val (.long q2), .second, .val (.int i), .val (.int j), .val (.int (((i + j).toUInt32 >>> ((1 : Int32) &&& 31).toUInt32).toInt32))] [(.ref a1)])) rfl rfl (hb hby dX_25)
        have pre6 : ∀ t, Steps p.tables e below (T5.setTop (mkF m 33 #[.val (.ref a1), .val (.long q2), .second, .val (.int i), .val (.int j), .val (.int (((i + j).toUInt32 >>> ((1 : Int32) &&& 31).toUInt32).toInt32))] [(.int (lcmpW (ps.getD ((lo + hi) / 2) 0) q2))])) t → Steps p.tables e below (T0.setTop (mkF m 10 #[.val (.ref a1), .val (.long q2), .second, .val (.int i), .val (.int j), s5] [])) t := fun t_ k_ => (by
            refine XS.iloadN X0.here hx rfl (hb hby dX_10) rfl ?_
            show Steps p.tables e below (T0.setTop (mkF m 11 #[.val (.ref a1), .val (.long q2), .second, .val (.int i), .val (.int j), s5] [(.int i)])) _
            refine XS.iload X0.here hx rfl (hb hby dX_11) rfl ?_
            show Steps p.tables e below (T0.setTop (mkF m 13 #[.val (.ref a1), .val (.long q2), .second, .val (.int i), .val (.int j), s5] [(.int j), (.int i)])) _
            refine XS.icmpNo X0.here hx rfl (hb hby dX_13) rfl (tlt (own_lt hi1 hj1 hlt)).2.1 ?_
            show Steps p.tables e below (T0.setTop (mkF m 16 #[.val (.ref a1), .val (.long q2), .second, .val (.int i), .val (.int j), s5] [])) _
            refine XS.iloadN X0.here hx rfl (hb hby dX_16) rfl ?_
            show Steps p.tables e below (T0.setTop (mkF m 17 #[.val (.ref a1), .val (.long q2), .second, .val (.int i), .val (.int j), s5] [(.int i)])) _
            refine XS.iload X0.here hx rfl (hb hby dX_17) rfl ?_
            show Steps p.tables e below (T0.setTop (mkF m 19 #[.val (.ref a1), .val (.long q2), .second, .val (.int i), .val (.int j), s5] [(.int j), (.int i)])) _
            refine XS.iadd X0.here hx rfl (hb hby dX_19) rfl ?_
            show Steps p.tables e below (T0.setTop (mkF m 20 #[.val (.ref a1), .val (.long q2), .second, .val (.int i), .val (.int j), s5] [(.int (i + j))])) _
            refine XS.iconst X0.here hx rfl (hb hby dX_20) ?_
            show Steps p.tables e below (T0.setTop (mkF m 21 #[.val (.ref a1), .val (.long q2), .second, .val (.int i), .val (.int j), s5] [(.int (1 : Int32)), (.int (i + j))])) _
            refine XS.iushr X0.here hx rfl (hb hby dX_21) rfl ?_
            show Steps p.tables e below (T0.setTop (mkF m 22 #[.val (.ref a1), .val (.long q2), .second, .val (.int i), .val (.int j), s5] [(.int (((i + j).toUInt32 >>> ((1 : Int32) &&& 31).toUInt32).toInt32))])) _
            refine XS.istore X0.here hx rfl (hb hby dX_22) rfl (l' := #[.val (.ref a1), .val (.long q2), .second, .val (.int i), .val (.int j), .val (.int (((i + j).toUInt32 >>> ((1 : Int32) &&& 31).toUInt32).toInt32))]) (XS.store1 (o := s5) rfl hs5 rfl) ?_
            show Steps p.tables e below (T0.setTop (mkF m 24 #[.val (.ref a1), .val (.long q2), .second, .val (.int i), .val (.int j), .val (.int (((i + j).toUInt32 >>> ((1 : Int32) &&& 31).toUInt32).toInt32))] [])) _
            refine XS.aloadN X0.here hx rfl (hb hby dX_24) rfl rfl ?_
            show Steps p.tables e below (T0.setTop (mkF m 25 #[.val (.ref a1), .val (.long q2), .second, .val (.int i), .val (.int j), .val (.int (((i + j).toUInt32 >>> ((1 : Int32) &&& 31).toUInt32).toInt32))] [(.ref a1)])) _
            refine st5 _ ?_
            show Steps p.tables e below (T5.setTop (mkF m 28 #[.val (.ref a1), .val (.long q2), .second, .val (.int i), .val (.int j), .val (.int (((i + j).toUInt32 >>> ((1 : Int32) &&& 31).toUInt32).toInt32))] [(.ref b)])) _
            refine XS.iload X5.here hx rfl (hb hby dX_28) rfl ?_
            show Steps p.tables e below (T5.setTop (mkF m 30 #[.val (.ref a1), .val (.long q2), .second, .val (.int i), .val (.int j), .val (.int (((i + j).toUInt32 >>> ((1 : Int32) &&& 31).toUInt32).toInt32))] [(.int (((i + j).toUInt32 >>> ((1 : Int32) &&& 31).toUInt32).toInt32)), (.ref b)])) _
            refine oLdJ X5 hx hZ e5 A1 (k := ((lo + hi) / 2)) hmid (by omega) (v := (ps.getD ((lo + hi) / 2) 0)) (HS.2 _ (by omega)) (g := (mkF m 30 #[.val (.ref a1), .val (.long q2), .second, .val (.int i), .val (.int j), .val (.int (((i + j).toUInt32 >>> ((1 : Int32) &&& 31).toUInt32).toInt32))] [(.int (((i + j).toUInt32 >>> ((1 : Int32) &&& 31).toUInt32).toInt32)), (.ref b)])) rfl rfl (hb hby dX_30) _ ?_
            show Steps p.tables e below (T5.setTop (mkF m 31 #[.val (.ref a1), .val (.long q2), .second, .val (.int i), .val (.int j), .val (.int (((i + j).toUInt32 >>> ((1 : Int32) &&& 31).toUInt32).toInt32))] [(.long (ps.getD ((lo + hi) / 2) 0))])) _
            refine XS.lloadN X5.here hx rfl (hb hby dX_31) rfl ?_
            show Steps p.tables e below (T5.setTop (mkF m 32 #[.val (.ref a1), .val (.long q2), .second, .val (.int i), .val (.int j), .val (.int (((i + j).toUInt32 >>> ((1 : Int32) &&& 31).toUInt32).toInt32))] [(.long q2), (.long (ps.getD ((lo + hi) / 2) 0))])) _
            refine XS.lcmp X5.here hx rfl (hb hby dX_32) rfl ?_
            show Steps p.tables e below (T5.setTop (mkF m 33 #[.val (.ref a1), .val (.long q2), .second, .val (.int i), .val (.int j), .val (.int (((i + j).toUInt32 >>> ((1 : Int32) &&& 31).toUInt32).toInt32))] [(.int (lcmpW (ps.getD ((lo + hi) / 2) 0) q2))])) _
            exact k_)
        by_cases c33_7 : (0 : Int32) < (lcmpW (ps.getD ((lo + hi) / 2) 0) q2)
        · have pre8 : ∀ t, Steps p.tables e below (T5.setTop (mkF m 48 #[.val (.ref a1), .val (.long q2), .second, .val (.int i), .val (.int (((i + j).toUInt32 >>> ((1 : Int32) &&& 31).toUInt32).toInt32)), .val (.int (((i + j).toUInt32 >>> ((1 : Int32) &&& 31).toUInt32).toInt32))] [])) t → Steps p.tables e below (T0.setTop (mkF m 10 #[.val (.ref a1), .val (.long q2), .second, .val (.int i), .val (.int j), s5] [])) t := fun t_ k_ => pre6 t_ (by
              refine XS.ifYes X5.here hx rfl (pc0 := 33) (pc' := 44) rfl (hb hby dX_33) rfl ((if0 _ _).trans (tlt c33_7).2.2.1) (by decide) (by decide) ?_
              show Steps p.tables e below (T5.setTop (mkF m 44 #[.val (.ref a1), .val (.long q2), .second, .val (.int i), .val (.int j), .val (.int (((i + j).toUInt32 >>> ((1 : Int32) &&& 31).toUInt32).toInt32))] [])) _
              refine XS.iload X5.here hx rfl (hb hby dX_44) rfl ?_
              show Steps p.tables e below (T5.setTop (mkF m 46 #[.val (.ref a1), .val (.long q2), .second, .val (.int i), .val (.int j), .val (.int (((i + j).toUInt32 >>> ((1 : Int32) &&& 31).toUInt32).toInt32))] [(.int (((i + j).toUInt32 >>> ((1 : Int32) &&& 31).toUInt32).toInt32))])) _
              refine XS.istore X5.here hx rfl (hb hby dX_46) rfl (l' := #[.val (.ref a1), .val (.long q2), .second, .val (.int i), .val (.int (((i + j).toUInt32 >>> ((1 : Int32) &&& 31).toUInt32).toInt32)), .val (.int (((i + j).toUInt32 >>> ((1 : Int32) &&& 31).toUInt32).toInt32))]) rfl ?_
              show Steps p.tables e below (T5.setTop (mkF m 48 #[.val (.ref a1), .val (.long q2), .second, .val (.int i), .val (.int (((i + j).toUInt32 >>> ((1 : Int32) &&& 31).toUInt32).toInt32)), .val (.int (((i + j).toUInt32 >>> ((1 : Int32) &&& 31).toUInt32).toInt32))] [])) _
              exact k_)
          have pre9 : ∀ t, Steps p.tables e below (T5.setTop (mkF m 10 #[.val (.ref a1), .val (.long q2), .second, .val (.int i), .val (.int (((i + j).toUInt32 >>> ((1 : Int32) &&& 31).toUInt32).toInt32)), .val (.int (((i + j).toUInt32 >>> ((1 : Int32) &&& 31).toUInt32).toInt32))] [])) t → Steps p.tables e below (T0.setTop (mkF m 10 #[.val (.ref a1), .val (.long q2), .second, .val (.int i), .val (.int j), s5] [])) t := fun t_ k_ => pre8 t_ (by
              refine XS.goto X5.here hx rfl (pc0 := 48) (pc' := 10) rfl (hb hby dX_48) (by decide) (by decide) ?_
              show Steps p.tables e below (T5.setTop (mkF m 10 #[.val (.ref a1), .val (.long q2), .second, .val (.int i), .val (.int (((i + j).toUInt32 >>> ((1 : Int32) &&& 31).toUInt32).toInt32)), .val (.int (((i + j).toUInt32 >>> ((1 : Int32) &&& 31).toUInt32).toInt32))] [])) _
              exact k_)
          obtain ⟨T', k, i', j', s5', X', e', r1, r2, r3, r4, st'⟩ := ih lo ((lo + hi) / 2) T5 i (((i + j).toUInt32 >>> ((1 : Int32) &&& 31).toUInt32).toInt32) (.val (.int (((i + j).toUInt32 >>> ((1 : Int32) &&& 31).toUInt32).toInt32))) (by omega) (by omega) (by omega) hi1 hmid hlo (own_lcgt.mp c33_7) (Or.inr ⟨_, rfl, rfl⟩) X5 e5
          exact ⟨T', k, i', j', s5', X', e', r1, r2, r3, r4, fun t k => pre9 t (st' t k)⟩
        · have pre10 : ∀ t, Steps p.tables e below (T5.setTop (mkF m 48 #[.val (.ref a1), .val (.long q2), .second, .val (.int ((((i + j).toUInt32 >>> ((1 : Int32) &&& 31).toUInt32).toInt32) + (1 : Int32))), .val (.int j), .val (.int (((i + j).toUInt32 >>> ((1 : Int32) &&& 31).toUInt32).toInt32))] [])) t → Steps p.tables e below (T0.setTop (mkF m 10 #[.val (.ref a1), .val (.long q2), .second, .val (.int i), .val (.int j), s5] [])) t := fun t_ k_ => pre6 t_ (by
              refine XS.ifNo X5.here hx rfl (hb hby dX_33) rfl ((if0 _ _).trans (flt c33_7).2.2.1) ?_
              show Steps p.tables e below (T5.setTop (mkF m 36 #[.val (.ref a1), .val (.long q2), .second, .val (.int i), .val (.int j), .val (.int (((i + j).toUInt32 >>> ((1 : Int32) &&& 31).toUInt32).toInt32))] [])) _
              refine XS.iload X5.here hx rfl (hb hby dX_36) rfl ?_
              show Steps p.tables e below (T5.setTop (mkF m 38 #[.val (.ref a1), .val (.long q2), .second, .val (.int i), .val (.int j), .val (.int (((i + j).toUInt32 >>> ((1 : Int32) &&& 31).toUInt32).toInt32))] [(.int (((i + j).toUInt32 >>> ((1 : Int32) &&& 31).toUInt32).toInt32))])) _
              refine XS.iconst X5.here hx rfl (hb hby dX_38) ?_
              show Steps p.tables e below (T5.setTop (mkF m 39 #[.val (.ref a1), .val (.long q2), .second, .val (.int i), .val (.int j), .val (.int (((i + j).toUInt32 >>> ((1 : Int32) &&& 31).toUInt32).toInt32))] [(.int (1 : Int32)), (.int (((i + j).toUInt32 >>> ((1 : Int32) &&& 31).toUInt32).toInt32))])) _
              refine XS.iadd X5.here hx rfl (hb hby dX_39) rfl ?_
              show Steps p.tables e below (T5.setTop (mkF m 40 #[.val (.ref a1), .val (.long q2), .second, .val (.int i), .val (.int j), .val (.int (((i + j).toUInt32 >>> ((1 : Int32) &&& 31).toUInt32).toInt32))] [(.int ((((i + j).toUInt32 >>> ((1 : Int32) &&& 31).toUInt32).toInt32) + (1 : Int32)))])) _
              refine XS.istoreN X5.here hx rfl (hb hby dX_40) rfl (l' := #[.val (.ref a1), .val (.long q2), .second, .val (.int ((((i + j).toUInt32 >>> ((1 : Int32) &&& 31).toUInt32).toInt32) + (1 : Int32))), .val (.int j), .val (.int (((i + j).toUInt32 >>> ((1 : Int32) &&& 31).toUInt32).toInt32))]) rfl ?_
              show Steps p.tables e below (T5.setTop (mkF m 41 #[.val (.ref a1), .val (.long q2), .second, .val (.int ((((i + j).toUInt32 >>> ((1 : Int32) &&& 31).toUInt32).toInt32) + (1 : Int32))), .val (.int j), .val (.int (((i + j).toUInt32 >>> ((1 : Int32) &&& 31).toUInt32).toInt32))] [])) _
              refine XS.goto X5.here hx rfl (pc0 := 41) (pc' := 48) rfl (hb hby dX_41) (by decide) (by decide) ?_
              show Steps p.tables e below (T5.setTop (mkF m 48 #[.val (.ref a1), .val (.long q2), .second, .val (.int ((((i + j).toUInt32 >>> ((1 : Int32) &&& 31).toUInt32).toInt32) + (1 : Int32))), .val (.int j), .val (.int (((i + j).toUInt32 >>> ((1 : Int32) &&& 31).toUInt32).toInt32))] [])) _
              exact k_)
          have pre11 : ∀ t, Steps p.tables e below (T5.setTop (mkF m 10 #[.val (.ref a1), .val (.long q2), .second, .val (.int ((((i + j).toUInt32 >>> ((1 : Int32) &&& 31).toUInt32).toInt32) + (1 : Int32))), .val (.int j), .val (.int (((i + j).toUInt32 >>> ((1 : Int32) &&& 31).toUInt32).toInt32))] [])) t → Steps p.tables e below (T0.setTop (mkF m 10 #[.val (.ref a1), .val (.long q2), .second, .val (.int i), .val (.int j), s5] [])) t := fun t_ k_ => pre10 t_ (by
              refine XS.goto X5.here hx rfl (pc0 := 48) (pc' := 10) rfl (hb hby dX_48) (by decide) (by decide) ?_
              show Steps p.tables e below (T5.setTop (mkF m 10 #[.val (.ref a1), .val (.long q2), .second, .val (.int ((((i + j).toUInt32 >>> ((1 : Int32) &&& 31).toUInt32).toInt32) + (1 : Int32))), .val (.int j), .val (.int (((i + j).toUInt32 >>> ((1 : Int32) &&& 31).toUInt32).toInt32))] [])) _
              exact k_)
          obtain ⟨T', k, i', j', s5', X', e', r1, r2, r3, r4, st'⟩ := ih ((lo + hi) / 2 + 1) hi T5 ((((i + j).toUInt32 >>> ((1 : Int32) &&& 31).toUInt32).toInt32) + (1 : Int32)) j (.val (.int (((i + j).toUInt32 >>> ((1 : Int32) &&& 31).toUInt32).toInt32))) (by omega) (by omega) hhi (own_inc hmid (by omega)) hj1 (fun x hx => Int.le_trans (hmono x ((lo + hi) / 2) (by omega) (by omega)) (by have q := mt own_lcgt.mpr c33_7; omega)) hun (Or.inr ⟨_, rfl, rfl⟩) X5 e5
          exact ⟨T', k, i', j', s5', X', e', r1, r2, r3, r4, fun t k => pre11 t (st' t k)⟩
  obtain ⟨T', k, i', j', s5', X', e', r1, r2, r3, r4, st'⟩ := loop (ps.length - 1) 0 (ps.length - 1) T1 (0 : Int32) (sz - (1 : Int32)) .unset (by omega) (by omega) (by omega) rfl (own_dec (n := ps.length - 1) (by rw [HS.1]; omega) (by omega)) (fun x hx => nomatch hx) hun (Or.inl rfl) X1 e1
  have preL : ∀ t, Steps p.tables e below (T'.setTop (mkF m 51 #[.val (.ref a1), .val (.long q2), .second, .val (.int i'), .val (.int j'), s5'] [])) t → Steps p.tables e below (s₁.setTop (entryFrame m #[(.ref a1), (.long q2)] 6)) t := fun t k => pre2 t (st' t k)
  have pre12 : ∀ t, Steps p.tables e below (T'.setTop (mkF m 52 #[.val (.ref a1), .val (.long q2), .second, .val (.int i'), .val (.int j'), s5'] [(.int i')])) t → Steps p.tables e below (s₁.setTop (entryFrame m #[(.ref a1), (.long q2)] 6)) t := fun t_ k_ => preL t_ (by
      refine XS.iloadN X'.here hx rfl (hb hby dX_51) rfl ?_
      show Steps p.tables e below (T'.setTop (mkF m 52 #[.val (.ref a1), .val (.long q2), .second, .val (.int i'), .val (.int j'), s5'] [(.int i')])) _
      exact k_)
  obtain ⟨fs, hr, hrun, hended, hW, hsame⟩ := X'.leave (v := some (.int i')) (fun h => by rw [Bd.returns] at h; cases h)
  refine ⟨_, _, pre12 _ ?_, hrun, hended, _, _, rfl, ?_, ⟨_, rfl⟩, hW, hsame.mono (by decide) (by decide)⟩
  · exact retI X' hx Bd.returns (hb hby dX_52) hr
  · show QX Z a1 q2 sz b G ps h0 n0 _ T'.heap _
    rw [e']
    exact ⟨N0, rfl, i', k, rfl, r1, r2, r3, r4⟩
theorem pd0_0 : parseMethodDescriptor "(I)V" = some ⟨[.int], none⟩ := by decide +kernel
theorem pd0_1 : parseMethodDescriptor "(J)V" = some ⟨[.long], none⟩ := by decide +kernel
theorem pd0_2 : parseMethodDescriptor "()J" = some ⟨[], some .long⟩ := by decide +kernel
theorem pd0_3 : parseMethodDescriptor "(J)I" = some ⟨[.long], some .int⟩ := by decide +kernel
theorem pn0 : plainName "com/example/trigonal/trigonal/CumulativeWeightsIndexPinLaw" = true := by first | (simp [plainName, overriddenIn]; done) | decide +kernel
theorem ef0 (m : MethodId) (p0 : Int32) (q1 : Int64) (q2 : Int64) (q3 : Int64) (q4 : Int64) (q5 : Int64) : entryFrame m #[(.int p0), (.long q1), (.long q2), (.long q3), (.long q4), (.long q5)] maxLocals = mkF m 0 #[.val (.int p0), .val (.long q1), .second, .val (.long q2), .second, .val (.long q3), .second, .val (.long q4), .second, .val (.long q5), .second, .unset, .unset, .unset, .unset, .unset, .unset, .unset, .unset, .unset, .unset, .unset, .unset, .unset, .unset, .unset, .unset, .unset, .unset, .unset, .unset, .unset, .unset, .unset] [] := by first | (simp [entryFrame, mkF, argsToLocals, Value.category, maxLocals]; done) | rfl
def Q0 (Z : State) (p0 : Int32) (q1 q2 q3 q4 q5 : Int64) (h0 : Heap) (n0 : Nat) (v : Option Value) (h : Heap) (L : List Loc) : Prop := v = some (.int 1) ∧ Fr n0 L
set_option maxRecDepth 65536 in
set_option maxHeartbeats 40000000 in
theorem rm0 (l : Launch) (Z : State) (a0 : Array Value) (hw : ∀ d ∈ tables_1, d.before a0 Z = true) (ws : List Jvm.Cond) (p0 : Int32) (q1 q2 q3 q4 q5 : Int64) (h0 : Heap) (n0 : Nat) (Z0 : n0 ≤ h0.size) :
    MetFree l x (head1 (Jvm.Cond.code x code maxLocals ret :: ws) room_1) (fun a U => a = #[(.int p0), (.long q1), (.long q2), (.long q3), (.long q4), (.long q5)] ∧ Z.Warmed39 U.vm ∧ U.heap = h0) (fun _ _ _ _ _ => True) (fun _ U o U' => ∃ v L, o = .returned v ∧ Q0 Z p0 q1 q2 q3 q4 q5 h0 n0 v U'.heap L ∧ FrameEnd U o U' L room_1.cells room_1.slots) := by
  refine MetFree.of_bodySF (plainFor_of_name pn0) hisR ?_
  intro p e s m args below meth c s₁ Bd hml0 hP hK
  obtain ⟨rfl, hZ, hh⟩ := hP
  have hx := Bd.exec
  have hby := Bd.bytes
  have hml : c.maxLocals = 34 := hml0
  have hown : s.vm.findClass "com/example/trigonal/trigonal/CumulativeWeightsIndexPinLaw" = some m.cls := findClass_of_methodNamed Bd.named
  have hnm := (name_of_methodNamed Bd.named Bd.method).1
  have X0 : Stand p l e room_1 s m #[(.int p0), (.long q1), (.long q2), (.long q3), (.long q4), (.long q5)] below meth c s₁ [] 0 0 := Stand.of_body Bd
  have e0 : s₁.heap = h0 := by rw [← hh, Bd.state]; rfl
  have N0 := Fr.nil n0
  have pre0 : ∀ t, Steps p.tables e below (s₁.setTop (mkF m 0 #[.val (.int p0), .val (.long q1), .second, .val (.long q2), .second, .val (.long q3), .second, .val (.long q4), .second, .val (.long q5), .second, .unset, .unset, .unset, .unset, .unset, .unset, .unset, .unset, .unset, .unset, .unset, .unset, .unset, .unset, .unset, .unset, .unset, .unset, .unset, .unset, .unset, .unset, .unset] [])) t → Steps p.tables e below (s₁.setTop (entryFrame m #[(.int p0), (.long q1), (.long q2), (.long q3), (.long q4), (.long q5)] maxLocals)) t := fun t k => castTop (ef0 m p0 q1 q2 q3 q4 q5) k
  have pre1 : ∀ t, Steps p.tables e below (s₁.setTop (mkF m 7 #[.val (.int p0), .val (.long q1), .second, .val (.long q2), .second, .val (.long q3), .second, .val (.long q4), .second, .val (.long q5), .second, .val (.int ((p0 &&& (3 : Int32)) + (1 : Int32))), .unset, .unset, .unset, .unset, .unset, .unset, .unset, .unset, .unset, .unset, .unset, .unset, .unset, .unset, .unset, .unset, .unset, .unset, .unset, .unset, .unset, .unset] [])) t → Steps p.tables e below (s₁.setTop (entryFrame m #[(.int p0), (.long q1), (.long q2), (.long q3), (.long q4), (.long q5)] maxLocals)) t := fun t_ k_ => pre0 t_ (by
      refine XS.iloadN X0.here hx rfl (hb hby at_0) rfl ?_
      show Steps p.tables e below (s₁.setTop (mkF m 1 #[.val (.int p0), .val (.long q1), .second, .val (.long q2), .second, .val (.long q3), .second, .val (.long q4), .second, .val (.long q5), .second, .unset, .unset, .unset, .unset, .unset, .unset, .unset, .unset, .unset, .unset, .unset, .unset, .unset, .unset, .unset, .unset, .unset, .unset, .unset, .unset, .unset, .unset, .unset] [(.int p0)])) _
      refine XS.iconst X0.here hx rfl (hb hby at_1) ?_
      show Steps p.tables e below (s₁.setTop (mkF m 2 #[.val (.int p0), .val (.long q1), .second, .val (.long q2), .second, .val (.long q3), .second, .val (.long q4), .second, .val (.long q5), .second, .unset, .unset, .unset, .unset, .unset, .unset, .unset, .unset, .unset, .unset, .unset, .unset, .unset, .unset, .unset, .unset, .unset, .unset, .unset, .unset, .unset, .unset, .unset] [(.int (3 : Int32)), (.int p0)])) _
      refine XS.iand X0.here hx rfl (hb hby at_2) rfl ?_
      show Steps p.tables e below (s₁.setTop (mkF m 3 #[.val (.int p0), .val (.long q1), .second, .val (.long q2), .second, .val (.long q3), .second, .val (.long q4), .second, .val (.long q5), .second, .unset, .unset, .unset, .unset, .unset, .unset, .unset, .unset, .unset, .unset, .unset, .unset, .unset, .unset, .unset, .unset, .unset, .unset, .unset, .unset, .unset, .unset, .unset] [(.int (p0 &&& (3 : Int32)))])) _
      refine XS.iconst X0.here hx rfl (hb hby at_3) ?_
      show Steps p.tables e below (s₁.setTop (mkF m 4 #[.val (.int p0), .val (.long q1), .second, .val (.long q2), .second, .val (.long q3), .second, .val (.long q4), .second, .val (.long q5), .second, .unset, .unset, .unset, .unset, .unset, .unset, .unset, .unset, .unset, .unset, .unset, .unset, .unset, .unset, .unset, .unset, .unset, .unset, .unset, .unset, .unset, .unset, .unset] [(.int (1 : Int32)), (.int (p0 &&& (3 : Int32)))])) _
      refine XS.iadd X0.here hx rfl (hb hby at_4) rfl ?_
      show Steps p.tables e below (s₁.setTop (mkF m 5 #[.val (.int p0), .val (.long q1), .second, .val (.long q2), .second, .val (.long q3), .second, .val (.long q4), .second, .val (.long q5), .second, .unset, .unset, .unset, .unset, .unset, .unset, .unset, .unset, .unset, .unset, .unset, .unset, .unset, .unset, .unset, .unset, .unset, .unset, .unset, .unset, .unset, .unset, .unset] [(.int ((p0 &&& (3 : Int32)) + (1 : Int32)))])) _
      refine XS.istore X0.here hx rfl (hb hby at_5) rfl (l' := #[.val (.int p0), .val (.long q1), .second, .val (.long q2), .second, .val (.long q3), .second, .val (.long q4), .second, .val (.long q5), .second, .val (.int ((p0 &&& (3 : Int32)) + (1 : Int32))), .unset, .unset, .unset, .unset, .unset, .unset, .unset, .unset, .unset, .unset, .unset, .unset, .unset, .unset, .unset, .unset, .unset, .unset, .unset, .unset, .unset, .unset]) rfl ?_
      show Steps p.tables e below (s₁.setTop (mkF m 7 #[.val (.int p0), .val (.long q1), .second, .val (.long q2), .second, .val (.long q3), .second, .val (.long q4), .second, .val (.long q5), .second, .val (.int ((p0 &&& (3 : Int32)) + (1 : Int32))), .unset, .unset, .unset, .unset, .unset, .unset, .unset, .unset, .unset, .unset, .unset, .unset, .unset, .unset, .unset, .unset, .unset, .unset, .unset, .unset, .unset, .unset] [])) _
      exact k_)
  obtain ⟨n, e_n⟩ : ∃ z : Int32, z = ((p0 &&& (3 : Int32)) + (1 : Int32)) := ⟨_, rfl⟩
  have pre2 : ∀ t, Steps p.tables e below (s₁.setTop (mkF m 7 #[.val (.int p0), .val (.long q1), .second, .val (.long q2), .second, .val (.long q3), .second, .val (.long q4), .second, .val (.long q5), .second, .val (.int n), .unset, .unset, .unset, .unset, .unset, .unset, .unset, .unset, .unset, .unset, .unset, .unset, .unset, .unset, .unset, .unset, .unset, .unset, .unset, .unset, .unset, .unset] [])) t → Steps p.tables e below (s₁.setTop (entryFrame m #[(.int p0), (.long q1), (.long q2), (.long q3), (.long q4), (.long q5)] maxLocals)) t := by subst e_n; exact pre1
  obtain ⟨cn, hc1, hc4, hnc⟩ := own_n p0
  rw [← e_n] at hnc
  have hf1 : (1 : Int32) < n ↔ 1 < cn := by rw [Int32.lt_iff_toInt_lt, hnc]; show (1 : Int) < _ ↔ _; omega
  have hf2 : (2 : Int32) < n ↔ 2 < cn := by rw [Int32.lt_iff_toInt_lt, hnc]; show (2 : Int) < _ ↔ _; omega
  have hf3 : (3 : Int32) < n ↔ 3 < cn := by rw [Int32.lt_iff_toInt_lt, hnc]; show (3 : Int) < _ ↔ _; omega
  have pre3 : ∀ t, Steps p.tables e below (s₁.setTop (mkF m 14 #[.val (.int p0), .val (.long q1), .second, .val (.long q2), .second, .val (.long q3), .second, .val (.long q4), .second, .val (.long q5), .second, .val (.int n), .val (.long (q1 &&& (1152921504606846975 : Int64))), .second, .unset, .unset, .unset, .unset, .unset, .unset, .unset, .unset, .unset, .unset, .unset, .unset, .unset, .unset, .unset, .unset, .unset, .unset, .unset, .unset] [])) t → Steps p.tables e below (s₁.setTop (entryFrame m #[(.int p0), (.long q1), (.long q2), (.long q3), (.long q4), (.long q5)] maxLocals)) t := fun t_ k_ => pre2 t_ (by
      refine XS.lloadN X0.here hx rfl (hb hby at_7) rfl ?_
      show Steps p.tables e below (s₁.setTop (mkF m 8 #[.val (.int p0), .val (.long q1), .second, .val (.long q2), .second, .val (.long q3), .second, .val (.long q4), .second, .val (.long q5), .second, .val (.int n), .unset, .unset, .unset, .unset, .unset, .unset, .unset, .unset, .unset, .unset, .unset, .unset, .unset, .unset, .unset, .unset, .unset, .unset, .unset, .unset, .unset, .unset] [(.long q1)])) _
      refine X0.ldc2Long hx hown (mvT hZ (hw _ (List.mem_of_getElem? (i := 0) rfl))) (g := (mkF m 8 #[.val (.int p0), .val (.long q1), .second, .val (.long q2), .second, .val (.long q3), .second, .val (.long q4), .second, .val (.long q5), .second, .val (.int n), .unset, .unset, .unset, .unset, .unset, .unset, .unset, .unset, .unset, .unset, .unset, .unset, .unset, .unset, .unset, .unset, .unset, .unset, .unset, .unset, .unset, .unset] [(.long q1)])) rfl (hb hby at_8) _ ?_
      show Steps p.tables e below (s₁.setTop (mkF m 11 #[.val (.int p0), .val (.long q1), .second, .val (.long q2), .second, .val (.long q3), .second, .val (.long q4), .second, .val (.long q5), .second, .val (.int n), .unset, .unset, .unset, .unset, .unset, .unset, .unset, .unset, .unset, .unset, .unset, .unset, .unset, .unset, .unset, .unset, .unset, .unset, .unset, .unset, .unset, .unset] [(.long (1152921504606846975 : Int64)), (.long q1)])) _
      refine XS.land X0.here hx rfl (hb hby at_11) rfl ?_
      show Steps p.tables e below (s₁.setTop (mkF m 12 #[.val (.int p0), .val (.long q1), .second, .val (.long q2), .second, .val (.long q3), .second, .val (.long q4), .second, .val (.long q5), .second, .val (.int n), .unset, .unset, .unset, .unset, .unset, .unset, .unset, .unset, .unset, .unset, .unset, .unset, .unset, .unset, .unset, .unset, .unset, .unset, .unset, .unset, .unset, .unset] [(.long (q1 &&& (1152921504606846975 : Int64)))])) _
      refine XS.lstore X0.here hx rfl (hb hby at_12) rfl (l' := #[.val (.int p0), .val (.long q1), .second, .val (.long q2), .second, .val (.long q3), .second, .val (.long q4), .second, .val (.long q5), .second, .val (.int n), .val (.long (q1 &&& (1152921504606846975 : Int64))), .second, .unset, .unset, .unset, .unset, .unset, .unset, .unset, .unset, .unset, .unset, .unset, .unset, .unset, .unset, .unset, .unset, .unset, .unset, .unset, .unset]) rfl ?_
      show Steps p.tables e below (s₁.setTop (mkF m 14 #[.val (.int p0), .val (.long q1), .second, .val (.long q2), .second, .val (.long q3), .second, .val (.long q4), .second, .val (.long q5), .second, .val (.int n), .val (.long (q1 &&& (1152921504606846975 : Int64))), .second, .unset, .unset, .unset, .unset, .unset, .unset, .unset, .unset, .unset, .unset, .unset, .unset, .unset, .unset, .unset, .unset, .unset, .unset, .unset, .unset] [])) _
      exact k_)
  obtain ⟨w0, e_w0⟩ : ∃ z : Int64, z = (q1 &&& (1152921504606846975 : Int64)) := ⟨_, rfl⟩
  have pre4 : ∀ t, Steps p.tables e below (s₁.setTop (mkF m 14 #[.val (.int p0), .val (.long q1), .second, .val (.long q2), .second, .val (.long q3), .second, .val (.long q4), .second, .val (.long q5), .second, .val (.int n), .val (.long w0), .second, .unset, .unset, .unset, .unset, .unset, .unset, .unset, .unset, .unset, .unset, .unset, .unset, .unset, .unset, .unset, .unset, .unset, .unset, .unset, .unset] [])) t → Steps p.tables e below (s₁.setTop (entryFrame m #[(.int p0), (.long q1), (.long q2), (.long q3), (.long q4), (.long q5)] maxLocals)) t := by subst e_w0; exact pre3
  have r0 : own_R w0 := by rw [e_w0]; exact own_mask _
  obtain ⟨w5, hv5, pre5⟩ : ∃ (w5 : Int64), (own_R w5 ∧ (¬ 1 < cn → w5 = 0)) ∧ ∀ t, Steps p.tables e below (s₁.setTop (mkF m 29 #[.val (.int p0), .val (.long q1), .second, .val (.long q2), .second, .val (.long q3), .second, .val (.long q4), .second, .val (.long q5), .second, .val (.int n), .val (.long w0), .second, .unset, .unset, .unset, .unset, .unset, .unset, .unset, .unset, .unset, .unset, .unset, .unset, .unset, .unset, .unset, .unset, .unset, .unset, .unset, .unset] [(.long w5)])) t → Steps p.tables e below (s₁.setTop (entryFrame m #[(.int p0), (.long q1), (.long q2), (.long q3), (.long q4), (.long q5)] maxLocals)) t := by
    have pre6 : ∀ t, Steps p.tables e below (s₁.setTop (mkF m 17 #[.val (.int p0), .val (.long q1), .second, .val (.long q2), .second, .val (.long q3), .second, .val (.long q4), .second, .val (.long q5), .second, .val (.int n), .val (.long w0), .second, .unset, .unset, .unset, .unset, .unset, .unset, .unset, .unset, .unset, .unset, .unset, .unset, .unset, .unset, .unset, .unset, .unset, .unset, .unset, .unset] [(.int (1 : Int32)), (.int n)])) t → Steps p.tables e below (s₁.setTop (entryFrame m #[(.int p0), (.long q1), (.long q2), (.long q3), (.long q4), (.long q5)] maxLocals)) t := fun t_ k_ => pre4 t_ (by
        refine XS.iload X0.here hx rfl (hb hby at_14) rfl ?_
        show Steps p.tables e below (s₁.setTop (mkF m 16 #[.val (.int p0), .val (.long q1), .second, .val (.long q2), .second, .val (.long q3), .second, .val (.long q4), .second, .val (.long q5), .second, .val (.int n), .val (.long w0), .second, .unset, .unset, .unset, .unset, .unset, .unset, .unset, .unset, .unset, .unset, .unset, .unset, .unset, .unset, .unset, .unset, .unset, .unset, .unset, .unset] [(.int n)])) _
        refine XS.iconst X0.here hx rfl (hb hby at_16) ?_
        show Steps p.tables e below (s₁.setTop (mkF m 17 #[.val (.int p0), .val (.long q1), .second, .val (.long q2), .second, .val (.long q3), .second, .val (.long q4), .second, .val (.long q5), .second, .val (.int n), .val (.long w0), .second, .unset, .unset, .unset, .unset, .unset, .unset, .unset, .unset, .unset, .unset, .unset, .unset, .unset, .unset, .unset, .unset, .unset, .unset, .unset, .unset] [(.int (1 : Int32)), (.int n)])) _
        exact k_)
    by_cases c17_7 : (1 : Int32) < n
    · have pre8 : ∀ t, Steps p.tables e below (s₁.setTop (mkF m 29 #[.val (.int p0), .val (.long q1), .second, .val (.long q2), .second, .val (.long q3), .second, .val (.long q4), .second, .val (.long q5), .second, .val (.int n), .val (.long w0), .second, .unset, .unset, .unset, .unset, .unset, .unset, .unset, .unset, .unset, .unset, .unset, .unset, .unset, .unset, .unset, .unset, .unset, .unset, .unset, .unset] [(.long (q2 &&& (1152921504606846975 : Int64)))])) t → Steps p.tables e below (s₁.setTop (entryFrame m #[(.int p0), (.long q1), (.long q2), (.long q3), (.long q4), (.long q5)] maxLocals)) t := fun t_ k_ => pre6 t_ (by
          refine XS.icmpNo X0.here hx rfl (hb hby at_17) rfl (tlt c17_7).2.2.2 ?_
          show Steps p.tables e below (s₁.setTop (mkF m 20 #[.val (.int p0), .val (.long q1), .second, .val (.long q2), .second, .val (.long q3), .second, .val (.long q4), .second, .val (.long q5), .second, .val (.int n), .val (.long w0), .second, .unset, .unset, .unset, .unset, .unset, .unset, .unset, .unset, .unset, .unset, .unset, .unset, .unset, .unset, .unset, .unset, .unset, .unset, .unset, .unset] [])) _
          refine XS.lloadN X0.here hx rfl (hb hby at_20) rfl ?_
          show Steps p.tables e below (s₁.setTop (mkF m 21 #[.val (.int p0), .val (.long q1), .second, .val (.long q2), .second, .val (.long q3), .second, .val (.long q4), .second, .val (.long q5), .second, .val (.int n), .val (.long w0), .second, .unset, .unset, .unset, .unset, .unset, .unset, .unset, .unset, .unset, .unset, .unset, .unset, .unset, .unset, .unset, .unset, .unset, .unset, .unset, .unset] [(.long q2)])) _
          refine X0.ldc2Long hx hown (mvT hZ (hw _ (List.mem_of_getElem? (i := 0) rfl))) (g := (mkF m 21 #[.val (.int p0), .val (.long q1), .second, .val (.long q2), .second, .val (.long q3), .second, .val (.long q4), .second, .val (.long q5), .second, .val (.int n), .val (.long w0), .second, .unset, .unset, .unset, .unset, .unset, .unset, .unset, .unset, .unset, .unset, .unset, .unset, .unset, .unset, .unset, .unset, .unset, .unset, .unset, .unset] [(.long q2)])) rfl (hb hby at_21) _ ?_
          show Steps p.tables e below (s₁.setTop (mkF m 24 #[.val (.int p0), .val (.long q1), .second, .val (.long q2), .second, .val (.long q3), .second, .val (.long q4), .second, .val (.long q5), .second, .val (.int n), .val (.long w0), .second, .unset, .unset, .unset, .unset, .unset, .unset, .unset, .unset, .unset, .unset, .unset, .unset, .unset, .unset, .unset, .unset, .unset, .unset, .unset, .unset] [(.long (1152921504606846975 : Int64)), (.long q2)])) _
          refine XS.land X0.here hx rfl (hb hby at_24) rfl ?_
          show Steps p.tables e below (s₁.setTop (mkF m 25 #[.val (.int p0), .val (.long q1), .second, .val (.long q2), .second, .val (.long q3), .second, .val (.long q4), .second, .val (.long q5), .second, .val (.int n), .val (.long w0), .second, .unset, .unset, .unset, .unset, .unset, .unset, .unset, .unset, .unset, .unset, .unset, .unset, .unset, .unset, .unset, .unset, .unset, .unset, .unset, .unset] [(.long (q2 &&& (1152921504606846975 : Int64)))])) _
          refine XS.goto X0.here hx rfl (pc0 := 25) (pc' := 29) rfl (hb hby at_25) (by decide) (by decide) ?_
          show Steps p.tables e below (s₁.setTop (mkF m 29 #[.val (.int p0), .val (.long q1), .second, .val (.long q2), .second, .val (.long q3), .second, .val (.long q4), .second, .val (.long q5), .second, .val (.int n), .val (.long w0), .second, .unset, .unset, .unset, .unset, .unset, .unset, .unset, .unset, .unset, .unset, .unset, .unset, .unset, .unset, .unset, .unset, .unset, .unset, .unset, .unset] [(.long (q2 &&& (1152921504606846975 : Int64)))])) _
          exact k_)
      exact ⟨(q2 &&& (1152921504606846975 : Int64)), ⟨own_mask _, fun z => absurd (hf1.mp c17_7) z⟩, pre8⟩
    · have pre9 : ∀ t, Steps p.tables e below (s₁.setTop (mkF m 29 #[.val (.int p0), .val (.long q1), .second, .val (.long q2), .second, .val (.long q3), .second, .val (.long q4), .second, .val (.long q5), .second, .val (.int n), .val (.long w0), .second, .unset, .unset, .unset, .unset, .unset, .unset, .unset, .unset, .unset, .unset, .unset, .unset, .unset, .unset, .unset, .unset, .unset, .unset, .unset, .unset] [(.long (0 : Int64))])) t → Steps p.tables e below (s₁.setTop (entryFrame m #[(.int p0), (.long q1), (.long q2), (.long q3), (.long q4), (.long q5)] maxLocals)) t := fun t_ k_ => pre6 t_ (by
          refine XS.icmpYes X0.here hx rfl (pc0 := 17) (pc' := 28) rfl (hb hby at_17) rfl (flt c17_7).2.2.2 (by decide) (by decide) ?_
          show Steps p.tables e below (s₁.setTop (mkF m 28 #[.val (.int p0), .val (.long q1), .second, .val (.long q2), .second, .val (.long q3), .second, .val (.long q4), .second, .val (.long q5), .second, .val (.int n), .val (.long w0), .second, .unset, .unset, .unset, .unset, .unset, .unset, .unset, .unset, .unset, .unset, .unset, .unset, .unset, .unset, .unset, .unset, .unset, .unset, .unset, .unset] [])) _
          refine XS.lconst X0.here hx rfl (hb hby at_28) ?_
          show Steps p.tables e below (s₁.setTop (mkF m 29 #[.val (.int p0), .val (.long q1), .second, .val (.long q2), .second, .val (.long q3), .second, .val (.long q4), .second, .val (.long q5), .second, .val (.int n), .val (.long w0), .second, .unset, .unset, .unset, .unset, .unset, .unset, .unset, .unset, .unset, .unset, .unset, .unset, .unset, .unset, .unset, .unset, .unset, .unset, .unset, .unset] [(.long (0 : Int64))])) _
          exact k_)
      exact ⟨(0 : Int64), ⟨⟨by decide, by decide⟩, fun _ => rfl⟩, pre9⟩
  obtain ⟨w10, hv10, pre10⟩ : ∃ (w10 : Int64), (own_R w10 ∧ (¬ 2 < cn → w10 = 0)) ∧ ∀ t, Steps p.tables e below (s₁.setTop (mkF m 47 #[.val (.int p0), .val (.long q1), .second, .val (.long q2), .second, .val (.long q3), .second, .val (.long q4), .second, .val (.long q5), .second, .val (.int n), .val (.long w0), .second, .val (.long w5), .second, .unset, .unset, .unset, .unset, .unset, .unset, .unset, .unset, .unset, .unset, .unset, .unset, .unset, .unset, .unset, .unset, .unset, .unset] [(.long w10)])) t → Steps p.tables e below (s₁.setTop (entryFrame m #[(.int p0), (.long q1), (.long q2), (.long q3), (.long q4), (.long q5)] maxLocals)) t := by
    have pre11 : ∀ t, Steps p.tables e below (s₁.setTop (mkF m 34 #[.val (.int p0), .val (.long q1), .second, .val (.long q2), .second, .val (.long q3), .second, .val (.long q4), .second, .val (.long q5), .second, .val (.int n), .val (.long w0), .second, .val (.long w5), .second, .unset, .unset, .unset, .unset, .unset, .unset, .unset, .unset, .unset, .unset, .unset, .unset, .unset, .unset, .unset, .unset, .unset, .unset] [(.int (2 : Int32)), (.int n)])) t → Steps p.tables e below (s₁.setTop (entryFrame m #[(.int p0), (.long q1), (.long q2), (.long q3), (.long q4), (.long q5)] maxLocals)) t := fun t_ k_ => pre5 t_ (by
        refine XS.lstore X0.here hx rfl (hb hby at_29) rfl (l' := #[.val (.int p0), .val (.long q1), .second, .val (.long q2), .second, .val (.long q3), .second, .val (.long q4), .second, .val (.long q5), .second, .val (.int n), .val (.long w0), .second, .val (.long w5), .second, .unset, .unset, .unset, .unset, .unset, .unset, .unset, .unset, .unset, .unset, .unset, .unset, .unset, .unset, .unset, .unset, .unset, .unset]) rfl ?_
        show Steps p.tables e below (s₁.setTop (mkF m 31 #[.val (.int p0), .val (.long q1), .second, .val (.long q2), .second, .val (.long q3), .second, .val (.long q4), .second, .val (.long q5), .second, .val (.int n), .val (.long w0), .second, .val (.long w5), .second, .unset, .unset, .unset, .unset, .unset, .unset, .unset, .unset, .unset, .unset, .unset, .unset, .unset, .unset, .unset, .unset, .unset, .unset] [])) _
        refine XS.iload X0.here hx rfl (hb hby at_31) rfl ?_
        show Steps p.tables e below (s₁.setTop (mkF m 33 #[.val (.int p0), .val (.long q1), .second, .val (.long q2), .second, .val (.long q3), .second, .val (.long q4), .second, .val (.long q5), .second, .val (.int n), .val (.long w0), .second, .val (.long w5), .second, .unset, .unset, .unset, .unset, .unset, .unset, .unset, .unset, .unset, .unset, .unset, .unset, .unset, .unset, .unset, .unset, .unset, .unset] [(.int n)])) _
        refine XS.iconst X0.here hx rfl (hb hby at_33) ?_
        show Steps p.tables e below (s₁.setTop (mkF m 34 #[.val (.int p0), .val (.long q1), .second, .val (.long q2), .second, .val (.long q3), .second, .val (.long q4), .second, .val (.long q5), .second, .val (.int n), .val (.long w0), .second, .val (.long w5), .second, .unset, .unset, .unset, .unset, .unset, .unset, .unset, .unset, .unset, .unset, .unset, .unset, .unset, .unset, .unset, .unset, .unset, .unset] [(.int (2 : Int32)), (.int n)])) _
        exact k_)
    by_cases c34_12 : (2 : Int32) < n
    · have pre13 : ∀ t, Steps p.tables e below (s₁.setTop (mkF m 47 #[.val (.int p0), .val (.long q1), .second, .val (.long q2), .second, .val (.long q3), .second, .val (.long q4), .second, .val (.long q5), .second, .val (.int n), .val (.long w0), .second, .val (.long w5), .second, .unset, .unset, .unset, .unset, .unset, .unset, .unset, .unset, .unset, .unset, .unset, .unset, .unset, .unset, .unset, .unset, .unset, .unset] [(.long (q3 &&& (1152921504606846975 : Int64)))])) t → Steps p.tables e below (s₁.setTop (entryFrame m #[(.int p0), (.long q1), (.long q2), (.long q3), (.long q4), (.long q5)] maxLocals)) t := fun t_ k_ => pre11 t_ (by
          refine XS.icmpNo X0.here hx rfl (hb hby at_34) rfl (tlt c34_12).2.2.2 ?_
          show Steps p.tables e below (s₁.setTop (mkF m 37 #[.val (.int p0), .val (.long q1), .second, .val (.long q2), .second, .val (.long q3), .second, .val (.long q4), .second, .val (.long q5), .second, .val (.int n), .val (.long w0), .second, .val (.long w5), .second, .unset, .unset, .unset, .unset, .unset, .unset, .unset, .unset, .unset, .unset, .unset, .unset, .unset, .unset, .unset, .unset, .unset, .unset] [])) _
          refine XS.lload X0.here hx rfl (hb hby at_37) rfl ?_
          show Steps p.tables e below (s₁.setTop (mkF m 39 #[.val (.int p0), .val (.long q1), .second, .val (.long q2), .second, .val (.long q3), .second, .val (.long q4), .second, .val (.long q5), .second, .val (.int n), .val (.long w0), .second, .val (.long w5), .second, .unset, .unset, .unset, .unset, .unset, .unset, .unset, .unset, .unset, .unset, .unset, .unset, .unset, .unset, .unset, .unset, .unset, .unset] [(.long q3)])) _
          refine X0.ldc2Long hx hown (mvT hZ (hw _ (List.mem_of_getElem? (i := 0) rfl))) (g := (mkF m 39 #[.val (.int p0), .val (.long q1), .second, .val (.long q2), .second, .val (.long q3), .second, .val (.long q4), .second, .val (.long q5), .second, .val (.int n), .val (.long w0), .second, .val (.long w5), .second, .unset, .unset, .unset, .unset, .unset, .unset, .unset, .unset, .unset, .unset, .unset, .unset, .unset, .unset, .unset, .unset, .unset, .unset] [(.long q3)])) rfl (hb hby at_39) _ ?_
          show Steps p.tables e below (s₁.setTop (mkF m 42 #[.val (.int p0), .val (.long q1), .second, .val (.long q2), .second, .val (.long q3), .second, .val (.long q4), .second, .val (.long q5), .second, .val (.int n), .val (.long w0), .second, .val (.long w5), .second, .unset, .unset, .unset, .unset, .unset, .unset, .unset, .unset, .unset, .unset, .unset, .unset, .unset, .unset, .unset, .unset, .unset, .unset] [(.long (1152921504606846975 : Int64)), (.long q3)])) _
          refine XS.land X0.here hx rfl (hb hby at_42) rfl ?_
          show Steps p.tables e below (s₁.setTop (mkF m 43 #[.val (.int p0), .val (.long q1), .second, .val (.long q2), .second, .val (.long q3), .second, .val (.long q4), .second, .val (.long q5), .second, .val (.int n), .val (.long w0), .second, .val (.long w5), .second, .unset, .unset, .unset, .unset, .unset, .unset, .unset, .unset, .unset, .unset, .unset, .unset, .unset, .unset, .unset, .unset, .unset, .unset] [(.long (q3 &&& (1152921504606846975 : Int64)))])) _
          refine XS.goto X0.here hx rfl (pc0 := 43) (pc' := 47) rfl (hb hby at_43) (by decide) (by decide) ?_
          show Steps p.tables e below (s₁.setTop (mkF m 47 #[.val (.int p0), .val (.long q1), .second, .val (.long q2), .second, .val (.long q3), .second, .val (.long q4), .second, .val (.long q5), .second, .val (.int n), .val (.long w0), .second, .val (.long w5), .second, .unset, .unset, .unset, .unset, .unset, .unset, .unset, .unset, .unset, .unset, .unset, .unset, .unset, .unset, .unset, .unset, .unset, .unset] [(.long (q3 &&& (1152921504606846975 : Int64)))])) _
          exact k_)
      exact ⟨(q3 &&& (1152921504606846975 : Int64)), ⟨own_mask _, fun z => absurd (hf2.mp c34_12) z⟩, pre13⟩
    · have pre14 : ∀ t, Steps p.tables e below (s₁.setTop (mkF m 47 #[.val (.int p0), .val (.long q1), .second, .val (.long q2), .second, .val (.long q3), .second, .val (.long q4), .second, .val (.long q5), .second, .val (.int n), .val (.long w0), .second, .val (.long w5), .second, .unset, .unset, .unset, .unset, .unset, .unset, .unset, .unset, .unset, .unset, .unset, .unset, .unset, .unset, .unset, .unset, .unset, .unset] [(.long (0 : Int64))])) t → Steps p.tables e below (s₁.setTop (entryFrame m #[(.int p0), (.long q1), (.long q2), (.long q3), (.long q4), (.long q5)] maxLocals)) t := fun t_ k_ => pre11 t_ (by
          refine XS.icmpYes X0.here hx rfl (pc0 := 34) (pc' := 46) rfl (hb hby at_34) rfl (flt c34_12).2.2.2 (by decide) (by decide) ?_
          show Steps p.tables e below (s₁.setTop (mkF m 46 #[.val (.int p0), .val (.long q1), .second, .val (.long q2), .second, .val (.long q3), .second, .val (.long q4), .second, .val (.long q5), .second, .val (.int n), .val (.long w0), .second, .val (.long w5), .second, .unset, .unset, .unset, .unset, .unset, .unset, .unset, .unset, .unset, .unset, .unset, .unset, .unset, .unset, .unset, .unset, .unset, .unset] [])) _
          refine XS.lconst X0.here hx rfl (hb hby at_46) ?_
          show Steps p.tables e below (s₁.setTop (mkF m 47 #[.val (.int p0), .val (.long q1), .second, .val (.long q2), .second, .val (.long q3), .second, .val (.long q4), .second, .val (.long q5), .second, .val (.int n), .val (.long w0), .second, .val (.long w5), .second, .unset, .unset, .unset, .unset, .unset, .unset, .unset, .unset, .unset, .unset, .unset, .unset, .unset, .unset, .unset, .unset, .unset, .unset] [(.long (0 : Int64))])) _
          exact k_)
      exact ⟨(0 : Int64), ⟨⟨by decide, by decide⟩, fun _ => rfl⟩, pre14⟩
  obtain ⟨w15, hv15, pre15⟩ : ∃ (w15 : Int64), (own_R w15 ∧ (¬ 3 < cn → w15 = 0)) ∧ ∀ t, Steps p.tables e below (s₁.setTop (mkF m 65 #[.val (.int p0), .val (.long q1), .second, .val (.long q2), .second, .val (.long q3), .second, .val (.long q4), .second, .val (.long q5), .second, .val (.int n), .val (.long w0), .second, .val (.long w5), .second, .val (.long w10), .second, .unset, .unset, .unset, .unset, .unset, .unset, .unset, .unset, .unset, .unset, .unset, .unset, .unset, .unset, .unset, .unset] [(.long w15)])) t → Steps p.tables e below (s₁.setTop (entryFrame m #[(.int p0), (.long q1), (.long q2), (.long q3), (.long q4), (.long q5)] maxLocals)) t := by
    have pre16 : ∀ t, Steps p.tables e below (s₁.setTop (mkF m 52 #[.val (.int p0), .val (.long q1), .second, .val (.long q2), .second, .val (.long q3), .second, .val (.long q4), .second, .val (.long q5), .second, .val (.int n), .val (.long w0), .second, .val (.long w5), .second, .val (.long w10), .second, .unset, .unset, .unset, .unset, .unset, .unset, .unset, .unset, .unset, .unset, .unset, .unset, .unset, .unset, .unset, .unset] [(.int (3 : Int32)), (.int n)])) t → Steps p.tables e below (s₁.setTop (entryFrame m #[(.int p0), (.long q1), (.long q2), (.long q3), (.long q4), (.long q5)] maxLocals)) t := fun t_ k_ => pre10 t_ (by
        refine XS.lstore X0.here hx rfl (hb hby at_47) rfl (l' := #[.val (.int p0), .val (.long q1), .second, .val (.long q2), .second, .val (.long q3), .second, .val (.long q4), .second, .val (.long q5), .second, .val (.int n), .val (.long w0), .second, .val (.long w5), .second, .val (.long w10), .second, .unset, .unset, .unset, .unset, .unset, .unset, .unset, .unset, .unset, .unset, .unset, .unset, .unset, .unset, .unset, .unset]) rfl ?_
        show Steps p.tables e below (s₁.setTop (mkF m 49 #[.val (.int p0), .val (.long q1), .second, .val (.long q2), .second, .val (.long q3), .second, .val (.long q4), .second, .val (.long q5), .second, .val (.int n), .val (.long w0), .second, .val (.long w5), .second, .val (.long w10), .second, .unset, .unset, .unset, .unset, .unset, .unset, .unset, .unset, .unset, .unset, .unset, .unset, .unset, .unset, .unset, .unset] [])) _
        refine XS.iload X0.here hx rfl (hb hby at_49) rfl ?_
        show Steps p.tables e below (s₁.setTop (mkF m 51 #[.val (.int p0), .val (.long q1), .second, .val (.long q2), .second, .val (.long q3), .second, .val (.long q4), .second, .val (.long q5), .second, .val (.int n), .val (.long w0), .second, .val (.long w5), .second, .val (.long w10), .second, .unset, .unset, .unset, .unset, .unset, .unset, .unset, .unset, .unset, .unset, .unset, .unset, .unset, .unset, .unset, .unset] [(.int n)])) _
        refine XS.iconst X0.here hx rfl (hb hby at_51) ?_
        show Steps p.tables e below (s₁.setTop (mkF m 52 #[.val (.int p0), .val (.long q1), .second, .val (.long q2), .second, .val (.long q3), .second, .val (.long q4), .second, .val (.long q5), .second, .val (.int n), .val (.long w0), .second, .val (.long w5), .second, .val (.long w10), .second, .unset, .unset, .unset, .unset, .unset, .unset, .unset, .unset, .unset, .unset, .unset, .unset, .unset, .unset, .unset, .unset] [(.int (3 : Int32)), (.int n)])) _
        exact k_)
    by_cases c52_17 : (3 : Int32) < n
    · have pre18 : ∀ t, Steps p.tables e below (s₁.setTop (mkF m 65 #[.val (.int p0), .val (.long q1), .second, .val (.long q2), .second, .val (.long q3), .second, .val (.long q4), .second, .val (.long q5), .second, .val (.int n), .val (.long w0), .second, .val (.long w5), .second, .val (.long w10), .second, .unset, .unset, .unset, .unset, .unset, .unset, .unset, .unset, .unset, .unset, .unset, .unset, .unset, .unset, .unset, .unset] [(.long (q4 &&& (1152921504606846975 : Int64)))])) t → Steps p.tables e below (s₁.setTop (entryFrame m #[(.int p0), (.long q1), (.long q2), (.long q3), (.long q4), (.long q5)] maxLocals)) t := fun t_ k_ => pre16 t_ (by
          refine XS.icmpNo X0.here hx rfl (hb hby at_52) rfl (tlt c52_17).2.2.2 ?_
          show Steps p.tables e below (s₁.setTop (mkF m 55 #[.val (.int p0), .val (.long q1), .second, .val (.long q2), .second, .val (.long q3), .second, .val (.long q4), .second, .val (.long q5), .second, .val (.int n), .val (.long w0), .second, .val (.long w5), .second, .val (.long w10), .second, .unset, .unset, .unset, .unset, .unset, .unset, .unset, .unset, .unset, .unset, .unset, .unset, .unset, .unset, .unset, .unset] [])) _
          refine XS.lload X0.here hx rfl (hb hby at_55) rfl ?_
          show Steps p.tables e below (s₁.setTop (mkF m 57 #[.val (.int p0), .val (.long q1), .second, .val (.long q2), .second, .val (.long q3), .second, .val (.long q4), .second, .val (.long q5), .second, .val (.int n), .val (.long w0), .second, .val (.long w5), .second, .val (.long w10), .second, .unset, .unset, .unset, .unset, .unset, .unset, .unset, .unset, .unset, .unset, .unset, .unset, .unset, .unset, .unset, .unset] [(.long q4)])) _
          refine X0.ldc2Long hx hown (mvT hZ (hw _ (List.mem_of_getElem? (i := 0) rfl))) (g := (mkF m 57 #[.val (.int p0), .val (.long q1), .second, .val (.long q2), .second, .val (.long q3), .second, .val (.long q4), .second, .val (.long q5), .second, .val (.int n), .val (.long w0), .second, .val (.long w5), .second, .val (.long w10), .second, .unset, .unset, .unset, .unset, .unset, .unset, .unset, .unset, .unset, .unset, .unset, .unset, .unset, .unset, .unset, .unset] [(.long q4)])) rfl (hb hby at_57) _ ?_
          show Steps p.tables e below (s₁.setTop (mkF m 60 #[.val (.int p0), .val (.long q1), .second, .val (.long q2), .second, .val (.long q3), .second, .val (.long q4), .second, .val (.long q5), .second, .val (.int n), .val (.long w0), .second, .val (.long w5), .second, .val (.long w10), .second, .unset, .unset, .unset, .unset, .unset, .unset, .unset, .unset, .unset, .unset, .unset, .unset, .unset, .unset, .unset, .unset] [(.long (1152921504606846975 : Int64)), (.long q4)])) _
          refine XS.land X0.here hx rfl (hb hby at_60) rfl ?_
          show Steps p.tables e below (s₁.setTop (mkF m 61 #[.val (.int p0), .val (.long q1), .second, .val (.long q2), .second, .val (.long q3), .second, .val (.long q4), .second, .val (.long q5), .second, .val (.int n), .val (.long w0), .second, .val (.long w5), .second, .val (.long w10), .second, .unset, .unset, .unset, .unset, .unset, .unset, .unset, .unset, .unset, .unset, .unset, .unset, .unset, .unset, .unset, .unset] [(.long (q4 &&& (1152921504606846975 : Int64)))])) _
          refine XS.goto X0.here hx rfl (pc0 := 61) (pc' := 65) rfl (hb hby at_61) (by decide) (by decide) ?_
          show Steps p.tables e below (s₁.setTop (mkF m 65 #[.val (.int p0), .val (.long q1), .second, .val (.long q2), .second, .val (.long q3), .second, .val (.long q4), .second, .val (.long q5), .second, .val (.int n), .val (.long w0), .second, .val (.long w5), .second, .val (.long w10), .second, .unset, .unset, .unset, .unset, .unset, .unset, .unset, .unset, .unset, .unset, .unset, .unset, .unset, .unset, .unset, .unset] [(.long (q4 &&& (1152921504606846975 : Int64)))])) _
          exact k_)
      exact ⟨(q4 &&& (1152921504606846975 : Int64)), ⟨own_mask _, fun z => absurd (hf3.mp c52_17) z⟩, pre18⟩
    · have pre19 : ∀ t, Steps p.tables e below (s₁.setTop (mkF m 65 #[.val (.int p0), .val (.long q1), .second, .val (.long q2), .second, .val (.long q3), .second, .val (.long q4), .second, .val (.long q5), .second, .val (.int n), .val (.long w0), .second, .val (.long w5), .second, .val (.long w10), .second, .unset, .unset, .unset, .unset, .unset, .unset, .unset, .unset, .unset, .unset, .unset, .unset, .unset, .unset, .unset, .unset] [(.long (0 : Int64))])) t → Steps p.tables e below (s₁.setTop (entryFrame m #[(.int p0), (.long q1), (.long q2), (.long q3), (.long q4), (.long q5)] maxLocals)) t := fun t_ k_ => pre16 t_ (by
          refine XS.icmpYes X0.here hx rfl (pc0 := 52) (pc' := 64) rfl (hb hby at_52) rfl (flt c52_17).2.2.2 (by decide) (by decide) ?_
          show Steps p.tables e below (s₁.setTop (mkF m 64 #[.val (.int p0), .val (.long q1), .second, .val (.long q2), .second, .val (.long q3), .second, .val (.long q4), .second, .val (.long q5), .second, .val (.int n), .val (.long w0), .second, .val (.long w5), .second, .val (.long w10), .second, .unset, .unset, .unset, .unset, .unset, .unset, .unset, .unset, .unset, .unset, .unset, .unset, .unset, .unset, .unset, .unset] [])) _
          refine XS.lconst X0.here hx rfl (hb hby at_64) ?_
          show Steps p.tables e below (s₁.setTop (mkF m 65 #[.val (.int p0), .val (.long q1), .second, .val (.long q2), .second, .val (.long q3), .second, .val (.long q4), .second, .val (.long q5), .second, .val (.int n), .val (.long w0), .second, .val (.long w5), .second, .val (.long w10), .second, .unset, .unset, .unset, .unset, .unset, .unset, .unset, .unset, .unset, .unset, .unset, .unset, .unset, .unset, .unset, .unset] [(.long (0 : Int64))])) _
          exact k_)
      exact ⟨(0 : Int64), ⟨⟨by decide, by decide⟩, fun _ => rfl⟩, pre19⟩
  obtain ⟨T20, h20, X20, e20, E20, A20, D20, -, st20⟩ := newO X0 hx hZ hown (hw _ (List.mem_of_getElem? (i := 1) rfl)) (hw _ (List.mem_of_getElem? (i := 2) rfl)) (hw _ (List.mem_of_getElem? (i := 3) rfl)) e0 (g := (mkF m 67 #[.val (.int p0), .val (.long q1), .second, .val (.long q2), .second, .val (.long q3), .second, .val (.long q4), .second, .val (.long q5), .second, .val (.int n), .val (.long w0), .second, .val (.long w5), .second, .val (.long w10), .second, .val (.long w15), .second, .unset, .unset, .unset, .unset, .unset, .unset, .unset, .unset, .unset, .unset, .unset, .unset, .unset, .unset] [])) rfl (hb hby at_67) (by decide) (by decide)
  obtain ⟨cw, g20⟩ : ∃ z, z = h0.size := ⟨_, rfl⟩
  rw [← g20] at A20 D20 st20
  have gg20 : n0 ≤ cw := Nat.le_trans Z0 (Nat.le_of_eq g20.symm)
  have Z20 : n0 ≤ h20.size := Nat.le_trans Z0 E20.1
  have f21 : Fld Z h20 cw "com/example/trigonal/trigonal/CumulativeWeights" "size" "I" (.int (0 : Int32)) := D20 (Or.inl (hw _ (List.mem_of_getElem? (i := 11) rfl))) (ty := .int) (by decide)
  have f22 : Fld Z h20 cw "com/example/trigonal/trigonal/CumulativeWeights" "sums" "[J" .null := D20 (Or.inr (hw _ (List.mem_of_getElem? (i := 14) rfl))) (ty := (.array .long)) (by decide)
  obtain ⟨_, _, ⟨T23, L23, k23, n23⟩, -, X23, ⟨Lc23, hQ23, l23, y23, z23⟩, st23⟩ := X20.specialBack hx (y := (⟨"com/example/trigonal/trigonal/CumulativeWeights", "<init>", "(I)V"⟩ : MethodName)) rfl hown (mvT hZ (hw _ (List.mem_of_getElem? (i := 4) rfl))) (mvT hZ (hw _ (List.mem_of_getElem? (i := 5) rfl))) (mvT hZ (hw _ (List.mem_of_getElem? (i := 6) rfl))) (by decide) (backOf (W := 1) (rmA l Z a0 hw [] cw ((4 : Int32))  h20 n0 Z20 A20 f21 f22 gg20 rfl) hZ (hw _ (List.mem_of_getElem? (i := 6) rfl)) (hw _ (List.mem_of_getElem? (i := 3) rfl)) (by decide) (by decide)) (g := (mkF m 72 #[.val (.int p0), .val (.long q1), .second, .val (.long q2), .second, .val (.long q3), .second, .val (.long q4), .second, .val (.long q5), .second, .val (.int n), .val (.long w0), .second, .val (.long w5), .second, .val (.long w10), .second, .val (.long w15), .second, .unset, .unset, .unset, .unset, .unset, .unset, .unset, .unset, .unset, .unset, .unset, .unset, .unset, .unset] [(.int (4 : Int32)), (.ref cw), (.ref cw)])) rfl (by rw [hml]; rfl) (Steps.refl _) (a := cw) (argsL := [(.int (4 : Int32))]) (rest := [(.ref cw)]) (lenOf pd0_0 rfl) rfl (by show 2 * 0 + _ ≤ _; exact Nat.le_of_eq rfl) (hb hby at_72) (fun _ _ => ⟨rfl, e20, (by decide : 1 + 1 ≤ _), (by decide : 2 + 4 ≤ _)⟩)
  dsimp only [Pt.U, Pt.locs, Pt.cells, Pt.slots] at X23 l23 y23 z23 st23 hQ23
  subst l23 y23 z23
  obtain ⟨rfl, N23q, K23, Fz23, sb, gb23, zb23, Fs23, As23⟩ := hQ23
  have N23 := Fr.app N0 N23q
  have f24 := A20.keep K23
  have Z23 : n0 ≤ T23.heap.size := Nat.le_trans Z20 K23.1
  have necs : cw ≠ sb := Nat.ne_of_lt (Nat.lt_of_lt_of_le A20.lt zb23)
  obtain ⟨cq25, kq25, q25a, q25b, q25c⟩ := isOf hZ rfl f24
  obtain ⟨_, _, ⟨T25, L25, k25, n25⟩, -, X25, ⟨Lc25, hQ25, l25, y25, z25⟩, st25⟩ := X23.virtualBack hx (y := (⟨"com/example/trigonal/trigonal/CumulativeWeights", "add", "(J)V"⟩ : MethodName)) (z := (⟨"com/example/trigonal/trigonal/CumulativeWeights", "add", "(J)V"⟩ : MethodName)) hown (mvT hZ (hw _ (List.mem_of_getElem? (i := 15) rfl))) (mvT hZ (hw _ (List.mem_of_getElem? (i := 16) rfl))) (notFace_of_selects (args := #[]) (mvT hZ (hw _ (List.mem_of_getElem? (i := 18) rfl)))) (mvT hZ (hw _ (List.mem_of_getElem? (i := 18) rfl))) (mvT hZ (hw _ (List.mem_of_getElem? (i := 17) rfl))) (by decide) (backOf (W := 0) (rmD l Z a0 hw [] cw w0 (0 : Int32) sb (fun _ => .long (0 : Int64)) ([] : List Int64) T23.heap n0 Z23 Fz23 Fs23 As23 (⟨rfl, fun _ h => nomatch h⟩ : own_S (0 : Int32) (fun _ => .long (0 : Int64)) []) (by simp) f24 necs gg20 gb23) hZ (hw _ (List.mem_of_getElem? (i := 19) rfl)) (hw _ (List.mem_of_getElem? (i := 3) rfl)) (by decide) (by decide)) q25a q25c (g := (mkF m 81 #[.val (.int p0), .val (.long q1), .second, .val (.long q2), .second, .val (.long q3), .second, .val (.long q4), .second, .val (.long q5), .second, .val (.int n), .val (.long w0), .second, .val (.long w5), .second, .val (.long w10), .second, .val (.long w15), .second, .val (.ref cw), .unset, .unset, .unset, .unset, .unset, .unset, .unset, .unset, .unset, .unset, .unset, .unset, .unset] [(.long w0), (.ref cw)])) rfl (by rw [hml]; rfl) (Steps.refl _) (argsL := [(.long w0)]) (rest := []) (lenOf pd0_1 rfl) rfl (by show 2 * 0 + _ ≤ _; exact Nat.le_of_eq rfl) (hb hby at_81) (fun _ _ => ⟨rfl, rfl, (by decide : 2 + 0 ≤ _), (by decide : 6 + 0 ≤ _)⟩)
  dsimp only [Pt.U, Pt.locs, Pt.cells, Pt.slots] at X25 l25 y25 z25 st25 hQ25
  subst l25 y25 z25
  obtain ⟨rfl, N25q, K25, Fz25, Fs25, As25, HS25⟩ := hQ25
  have N25 := Fr.app N23 N25q
  have f26 := f24.keep K25
  have Z25 : n0 ≤ T25.heap.size := Nat.le_trans Z23 K25.1
  have pre27 : ∀ t, Steps p.tables e below (T25.setTop (mkF m 84 #[.val (.int p0), .val (.long q1), .second, .val (.long q2), .second, .val (.long q3), .second, .val (.long q4), .second, .val (.long q5), .second, .val (.int n), .val (.long w0), .second, .val (.long w5), .second, .val (.long w10), .second, .val (.long w15), .second, .val (.ref cw), .unset, .unset, .unset, .unset, .unset, .unset, .unset, .unset, .unset, .unset, .unset, .unset, .unset] [])) t → Steps p.tables e below (s₁.setTop (entryFrame m #[(.int p0), (.long q1), (.long q2), (.long q3), (.long q4), (.long q5)] maxLocals)) t := fun t_ k_ => pre15 t_ (by
      refine XS.lstore X0.here hx rfl (hb hby at_65) rfl (l' := #[.val (.int p0), .val (.long q1), .second, .val (.long q2), .second, .val (.long q3), .second, .val (.long q4), .second, .val (.long q5), .second, .val (.int n), .val (.long w0), .second, .val (.long w5), .second, .val (.long w10), .second, .val (.long w15), .second, .unset, .unset, .unset, .unset, .unset, .unset, .unset, .unset, .unset, .unset, .unset, .unset, .unset, .unset]) rfl ?_
      show Steps p.tables e below (s₁.setTop (mkF m 67 #[.val (.int p0), .val (.long q1), .second, .val (.long q2), .second, .val (.long q3), .second, .val (.long q4), .second, .val (.long q5), .second, .val (.int n), .val (.long w0), .second, .val (.long w5), .second, .val (.long w10), .second, .val (.long w15), .second, .unset, .unset, .unset, .unset, .unset, .unset, .unset, .unset, .unset, .unset, .unset, .unset, .unset, .unset] [])) _
      refine st20 _ ?_
      show Steps p.tables e below (T20.setTop (mkF m 70 #[.val (.int p0), .val (.long q1), .second, .val (.long q2), .second, .val (.long q3), .second, .val (.long q4), .second, .val (.long q5), .second, .val (.int n), .val (.long w0), .second, .val (.long w5), .second, .val (.long w10), .second, .val (.long w15), .second, .unset, .unset, .unset, .unset, .unset, .unset, .unset, .unset, .unset, .unset, .unset, .unset, .unset, .unset] [(.ref cw)])) _
      refine XS.dup X20.here hx rfl (hb hby at_70) rfl rfl ?_
      show Steps p.tables e below (T20.setTop (mkF m 71 #[.val (.int p0), .val (.long q1), .second, .val (.long q2), .second, .val (.long q3), .second, .val (.long q4), .second, .val (.long q5), .second, .val (.int n), .val (.long w0), .second, .val (.long w5), .second, .val (.long w10), .second, .val (.long w15), .second, .unset, .unset, .unset, .unset, .unset, .unset, .unset, .unset, .unset, .unset, .unset, .unset, .unset, .unset] [(.ref cw), (.ref cw)])) _
      refine XS.iconst X20.here hx rfl (hb hby at_71) ?_
      show Steps p.tables e below (T20.setTop (mkF m 72 #[.val (.int p0), .val (.long q1), .second, .val (.long q2), .second, .val (.long q3), .second, .val (.long q4), .second, .val (.long q5), .second, .val (.int n), .val (.long w0), .second, .val (.long w5), .second, .val (.long w10), .second, .val (.long w15), .second, .unset, .unset, .unset, .unset, .unset, .unset, .unset, .unset, .unset, .unset, .unset, .unset, .unset, .unset] [(.int (4 : Int32)), (.ref cw), (.ref cw)])) _
      refine st23.trans ?_
      show Steps p.tables e below (T23.setTop (mkF m 75 #[.val (.int p0), .val (.long q1), .second, .val (.long q2), .second, .val (.long q3), .second, .val (.long q4), .second, .val (.long q5), .second, .val (.int n), .val (.long w0), .second, .val (.long w5), .second, .val (.long w10), .second, .val (.long w15), .second, .unset, .unset, .unset, .unset, .unset, .unset, .unset, .unset, .unset, .unset, .unset, .unset, .unset, .unset] [(.ref cw)])) _
      refine XS.astore X23.here hx rfl (hb hby at_75) rfl rfl (l' := #[.val (.int p0), .val (.long q1), .second, .val (.long q2), .second, .val (.long q3), .second, .val (.long q4), .second, .val (.long q5), .second, .val (.int n), .val (.long w0), .second, .val (.long w5), .second, .val (.long w10), .second, .val (.long w15), .second, .val (.ref cw), .unset, .unset, .unset, .unset, .unset, .unset, .unset, .unset, .unset, .unset, .unset, .unset, .unset]) rfl ?_
      show Steps p.tables e below (T23.setTop (mkF m 77 #[.val (.int p0), .val (.long q1), .second, .val (.long q2), .second, .val (.long q3), .second, .val (.long q4), .second, .val (.long q5), .second, .val (.int n), .val (.long w0), .second, .val (.long w5), .second, .val (.long w10), .second, .val (.long w15), .second, .val (.ref cw), .unset, .unset, .unset, .unset, .unset, .unset, .unset, .unset, .unset, .unset, .unset, .unset, .unset] [])) _
      refine XS.aload X23.here hx rfl (hb hby at_77) rfl rfl ?_
      show Steps p.tables e below (T23.setTop (mkF m 79 #[.val (.int p0), .val (.long q1), .second, .val (.long q2), .second, .val (.long q3), .second, .val (.long q4), .second, .val (.long q5), .second, .val (.int n), .val (.long w0), .second, .val (.long w5), .second, .val (.long w10), .second, .val (.long w15), .second, .val (.ref cw), .unset, .unset, .unset, .unset, .unset, .unset, .unset, .unset, .unset, .unset, .unset, .unset, .unset] [(.ref cw)])) _
      refine XS.lload X23.here hx rfl (hb hby at_79) rfl ?_
      show Steps p.tables e below (T23.setTop (mkF m 81 #[.val (.int p0), .val (.long q1), .second, .val (.long q2), .second, .val (.long q3), .second, .val (.long q4), .second, .val (.long q5), .second, .val (.int n), .val (.long w0), .second, .val (.long w5), .second, .val (.long w10), .second, .val (.long w15), .second, .val (.ref cw), .unset, .unset, .unset, .unset, .unset, .unset, .unset, .unset, .unset, .unset, .unset, .unset, .unset] [(.long w0), (.ref cw)])) _
      refine st25.trans ?_
      show Steps p.tables e below (T25.setTop (mkF m 84 #[.val (.int p0), .val (.long q1), .second, .val (.long q2), .second, .val (.long q3), .second, .val (.long q4), .second, .val (.long q5), .second, .val (.int n), .val (.long w0), .second, .val (.long w5), .second, .val (.long w10), .second, .val (.long w15), .second, .val (.ref cw), .unset, .unset, .unset, .unset, .unset, .unset, .unset, .unset, .unset, .unset, .unset, .unset, .unset] [])) _
      exact k_)
  have hS1 : own_S ((0 : Int32) + (1 : Int32)) (oUpd (fun _ => .long (0 : Int64)) ([] : List Int64).length (.long (([] : List Int64).getLastD 0 + w0))) ((own_ps w0 w5 w10 w15).take (min cn 1)) := by
    rw [show min cn 1 = 1 by omega]
    have q := HS25
    have z : ([] : List Int64) ++ [([] : List Int64).getLastD 0 + w0] = [w0] := by simp
    rw [z] at q
    exact q
  obtain ⟨T28, h28, L28, z28, G28, X28, e28, N28, Z28, f35, f36, f37, f38, hv28, pre28⟩ : ∃ (T28 : State) (h28 : Heap) (L28 : List Loc) (z28 : Int32) (G28 : Nat → Value), Stand p l e room_1 s m #[(.int p0), (.long q1), (.long q2), (.long q3), (.long q4), (.long q5)] below meth c T28 L28 2 6 ∧ T28.heap = h28 ∧ Fr n0 L28 ∧ n0 ≤ h28.size ∧ Exa Z h28 cw "com/example/trigonal/trigonal/CumulativeWeights" ∧ Fld Z h28 cw "com/example/trigonal/trigonal/CumulativeWeights" "size" "I" (.int z28) ∧ Fld Z h28 cw "com/example/trigonal/trigonal/CumulativeWeights" "sums" "[J" (.ref sb) ∧ OArr Z h28 sb .long 4 G28 ∧ (own_S z28 G28 ((own_ps w0 w5 w10 w15).take (min cn 2))) ∧ ∀ t, Steps p.tables e below (T28.setTop (mkF m 97 #[.val (.int p0), .val (.long q1), .second, .val (.long q2), .second, .val (.long q3), .second, .val (.long q4), .second, .val (.long q5), .second, .val (.int n), .val (.long w0), .second, .val (.long w5), .second, .val (.long w10), .second, .val (.long w15), .second, .val (.ref cw), .unset, .unset, .unset, .unset, .unset, .unset, .unset, .unset, .unset, .unset, .unset, .unset, .unset] [])) t → Steps p.tables e below (s₁.setTop (entryFrame m #[(.int p0), (.long q1), (.long q2), (.long q3), (.long q4), (.long q5)] maxLocals)) t := by
    have pre29 : ∀ t, Steps p.tables e below (T25.setTop (mkF m 87 #[.val (.int p0), .val (.long q1), .second, .val (.long q2), .second, .val (.long q3), .second, .val (.long q4), .second, .val (.long q5), .second, .val (.int n), .val (.long w0), .second, .val (.long w5), .second, .val (.long w10), .second, .val (.long w15), .second, .val (.ref cw), .unset, .unset, .unset, .unset, .unset, .unset, .unset, .unset, .unset, .unset, .unset, .unset, .unset] [(.int (1 : Int32)), (.int n)])) t → Steps p.tables e below (s₁.setTop (entryFrame m #[(.int p0), (.long q1), (.long q2), (.long q3), (.long q4), (.long q5)] maxLocals)) t := fun t_ k_ => pre27 t_ (by
        refine XS.iload X25.here hx rfl (hb hby at_84) rfl ?_
        show Steps p.tables e below (T25.setTop (mkF m 86 #[.val (.int p0), .val (.long q1), .second, .val (.long q2), .second, .val (.long q3), .second, .val (.long q4), .second, .val (.long q5), .second, .val (.int n), .val (.long w0), .second, .val (.long w5), .second, .val (.long w10), .second, .val (.long w15), .second, .val (.ref cw), .unset, .unset, .unset, .unset, .unset, .unset, .unset, .unset, .unset, .unset, .unset, .unset, .unset] [(.int n)])) _
        refine XS.iconst X25.here hx rfl (hb hby at_86) ?_
        show Steps p.tables e below (T25.setTop (mkF m 87 #[.val (.int p0), .val (.long q1), .second, .val (.long q2), .second, .val (.long q3), .second, .val (.long q4), .second, .val (.long q5), .second, .val (.int n), .val (.long w0), .second, .val (.long w5), .second, .val (.long w10), .second, .val (.long w15), .second, .val (.ref cw), .unset, .unset, .unset, .unset, .unset, .unset, .unset, .unset, .unset, .unset, .unset, .unset, .unset] [(.int (1 : Int32)), (.int n)])) _
        exact k_)
    by_cases c87_30 : (1 : Int32) < n
    · obtain ⟨cq31, kq31, q31a, q31b, q31c⟩ := isOf hZ rfl f26
      obtain ⟨_, _, ⟨T31, L31, k31, n31⟩, -, X31, ⟨Lc31, hQ31, l31, y31, z31⟩, st31⟩ := X25.virtualBack hx (y := (⟨"com/example/trigonal/trigonal/CumulativeWeights", "add", "(J)V"⟩ : MethodName)) (z := (⟨"com/example/trigonal/trigonal/CumulativeWeights", "add", "(J)V"⟩ : MethodName)) hown (mvT hZ (hw _ (List.mem_of_getElem? (i := 15) rfl))) (mvT hZ (hw _ (List.mem_of_getElem? (i := 16) rfl))) (notFace_of_selects (args := #[]) (mvT hZ (hw _ (List.mem_of_getElem? (i := 18) rfl)))) (mvT hZ (hw _ (List.mem_of_getElem? (i := 18) rfl))) (mvT hZ (hw _ (List.mem_of_getElem? (i := 17) rfl))) (by decide) (backOf (W := 0) (rmD l Z a0 hw [] cw w5 ((0 : Int32) + (1 : Int32)) sb (oUpd (fun _ => .long (0 : Int64)) ([] : List Int64).length (.long (([] : List Int64).getLastD 0 + w0))) ([w0]) T25.heap n0 Z25 Fz25 Fs25 As25 (by have q := hS1; rw [show min cn 1 = 1 by have := hf1.mp c87_30; omega] at q; exact q) (by simp) f26 necs gg20 gb23) hZ (hw _ (List.mem_of_getElem? (i := 19) rfl)) (hw _ (List.mem_of_getElem? (i := 3) rfl)) (by decide) (by decide)) q31a q31c (g := (mkF m 94 #[.val (.int p0), .val (.long q1), .second, .val (.long q2), .second, .val (.long q3), .second, .val (.long q4), .second, .val (.long q5), .second, .val (.int n), .val (.long w0), .second, .val (.long w5), .second, .val (.long w10), .second, .val (.long w15), .second, .val (.ref cw), .unset, .unset, .unset, .unset, .unset, .unset, .unset, .unset, .unset, .unset, .unset, .unset, .unset] [(.long w5), (.ref cw)])) rfl (by rw [hml]; rfl) (Steps.refl _) (argsL := [(.long w5)]) (rest := []) (lenOf pd0_1 rfl) rfl (by show 2 * 0 + _ ≤ _; exact Nat.le_of_eq rfl) (hb hby at_94) (fun _ _ => ⟨rfl, rfl, (by decide : 2 + 0 ≤ _), (by decide : 6 + 0 ≤ _)⟩)
      dsimp only [Pt.U, Pt.locs, Pt.cells, Pt.slots] at X31 l31 y31 z31 st31 hQ31
      subst l31 y31 z31
      obtain ⟨rfl, N31q, K31, Fz31, Fs31, As31, HS31⟩ := hQ31
      have N31 := Fr.app N25 N31q
      have f32 := f26.keep K31
      have Z31 : n0 ≤ T31.heap.size := Nat.le_trans Z25 K31.1
      have pre33 : ∀ t, Steps p.tables e below (T31.setTop (mkF m 97 #[.val (.int p0), .val (.long q1), .second, .val (.long q2), .second, .val (.long q3), .second, .val (.long q4), .second, .val (.long q5), .second, .val (.int n), .val (.long w0), .second, .val (.long w5), .second, .val (.long w10), .second, .val (.long w15), .second, .val (.ref cw), .unset, .unset, .unset, .unset, .unset, .unset, .unset, .unset, .unset, .unset, .unset, .unset, .unset] [])) t → Steps p.tables e below (s₁.setTop (entryFrame m #[(.int p0), (.long q1), (.long q2), (.long q3), (.long q4), (.long q5)] maxLocals)) t := fun t_ k_ => pre29 t_ (by
          refine XS.icmpNo X25.here hx rfl (hb hby at_87) rfl (tlt c87_30).2.2.2 ?_
          show Steps p.tables e below (T25.setTop (mkF m 90 #[.val (.int p0), .val (.long q1), .second, .val (.long q2), .second, .val (.long q3), .second, .val (.long q4), .second, .val (.long q5), .second, .val (.int n), .val (.long w0), .second, .val (.long w5), .second, .val (.long w10), .second, .val (.long w15), .second, .val (.ref cw), .unset, .unset, .unset, .unset, .unset, .unset, .unset, .unset, .unset, .unset, .unset, .unset, .unset] [])) _
          refine XS.aload X25.here hx rfl (hb hby at_90) rfl rfl ?_
          show Steps p.tables e below (T25.setTop (mkF m 92 #[.val (.int p0), .val (.long q1), .second, .val (.long q2), .second, .val (.long q3), .second, .val (.long q4), .second, .val (.long q5), .second, .val (.int n), .val (.long w0), .second, .val (.long w5), .second, .val (.long w10), .second, .val (.long w15), .second, .val (.ref cw), .unset, .unset, .unset, .unset, .unset, .unset, .unset, .unset, .unset, .unset, .unset, .unset, .unset] [(.ref cw)])) _
          refine XS.lload X25.here hx rfl (hb hby at_92) rfl ?_
          show Steps p.tables e below (T25.setTop (mkF m 94 #[.val (.int p0), .val (.long q1), .second, .val (.long q2), .second, .val (.long q3), .second, .val (.long q4), .second, .val (.long q5), .second, .val (.int n), .val (.long w0), .second, .val (.long w5), .second, .val (.long w10), .second, .val (.long w15), .second, .val (.ref cw), .unset, .unset, .unset, .unset, .unset, .unset, .unset, .unset, .unset, .unset, .unset, .unset, .unset] [(.long w5), (.ref cw)])) _
          refine st31.trans ?_
          show Steps p.tables e below (T31.setTop (mkF m 97 #[.val (.int p0), .val (.long q1), .second, .val (.long q2), .second, .val (.long q3), .second, .val (.long q4), .second, .val (.long q5), .second, .val (.int n), .val (.long w0), .second, .val (.long w5), .second, .val (.long w10), .second, .val (.long w15), .second, .val (.ref cw), .unset, .unset, .unset, .unset, .unset, .unset, .unset, .unset, .unset, .unset, .unset, .unset, .unset] [])) _
          exact k_)
      exact ⟨T31, T31.heap, _, (((0 : Int32) + (1 : Int32)) + (1 : Int32)), (oUpd (oUpd (fun _ => .long (0 : Int64)) ([] : List Int64).length (.long (([] : List Int64).getLastD 0 + w0))) ([w0]).length (.long (([w0]).getLastD 0 + w5))), X31, rfl, N31, Z31, f32, Fz31, Fs31, As31, (by rw [show min cn 2 = 2 by have := hf1.mp c87_30; omega]; exact HS31), pre33⟩
    · have pre34 : ∀ t, Steps p.tables e below (T25.setTop (mkF m 97 #[.val (.int p0), .val (.long q1), .second, .val (.long q2), .second, .val (.long q3), .second, .val (.long q4), .second, .val (.long q5), .second, .val (.int n), .val (.long w0), .second, .val (.long w5), .second, .val (.long w10), .second, .val (.long w15), .second, .val (.ref cw), .unset, .unset, .unset, .unset, .unset, .unset, .unset, .unset, .unset, .unset, .unset, .unset, .unset] [])) t → Steps p.tables e below (s₁.setTop (entryFrame m #[(.int p0), (.long q1), (.long q2), (.long q3), (.long q4), (.long q5)] maxLocals)) t := fun t_ k_ => pre29 t_ (by
          refine XS.icmpYes X25.here hx rfl (pc0 := 87) (pc' := 97) rfl (hb hby at_87) rfl (flt c87_30).2.2.2 (by decide) (by decide) ?_
          show Steps p.tables e below (T25.setTop (mkF m 97 #[.val (.int p0), .val (.long q1), .second, .val (.long q2), .second, .val (.long q3), .second, .val (.long q4), .second, .val (.long q5), .second, .val (.int n), .val (.long w0), .second, .val (.long w5), .second, .val (.long w10), .second, .val (.long w15), .second, .val (.ref cw), .unset, .unset, .unset, .unset, .unset, .unset, .unset, .unset, .unset, .unset, .unset, .unset, .unset] [])) _
          exact k_)
      exact ⟨T25, T25.heap, _, ((0 : Int32) + (1 : Int32)), (oUpd (fun _ => .long (0 : Int64)) ([] : List Int64).length (.long (([] : List Int64).getLastD 0 + w0))), X25, rfl, N25, Z25, f26, Fz25, Fs25, As25, (by rw [show min cn 2 = min cn 1 by have := mt hf1.mpr c87_30; omega]; exact hS1), pre34⟩
  obtain ⟨T39, h39, L39, z39, G39, X39, e39, N39, Z39, f46, f47, f48, f49, hv39, pre39⟩ : ∃ (T39 : State) (h39 : Heap) (L39 : List Loc) (z39 : Int32) (G39 : Nat → Value), Stand p l e room_1 s m #[(.int p0), (.long q1), (.long q2), (.long q3), (.long q4), (.long q5)] below meth c T39 L39 2 6 ∧ T39.heap = h39 ∧ Fr n0 L39 ∧ n0 ≤ h39.size ∧ Exa Z h39 cw "com/example/trigonal/trigonal/CumulativeWeights" ∧ Fld Z h39 cw "com/example/trigonal/trigonal/CumulativeWeights" "size" "I" (.int z39) ∧ Fld Z h39 cw "com/example/trigonal/trigonal/CumulativeWeights" "sums" "[J" (.ref sb) ∧ OArr Z h39 sb .long 4 G39 ∧ (own_S z39 G39 ((own_ps w0 w5 w10 w15).take (min cn 3))) ∧ ∀ t, Steps p.tables e below (T39.setTop (mkF m 110 #[.val (.int p0), .val (.long q1), .second, .val (.long q2), .second, .val (.long q3), .second, .val (.long q4), .second, .val (.long q5), .second, .val (.int n), .val (.long w0), .second, .val (.long w5), .second, .val (.long w10), .second, .val (.long w15), .second, .val (.ref cw), .unset, .unset, .unset, .unset, .unset, .unset, .unset, .unset, .unset, .unset, .unset, .unset, .unset] [])) t → Steps p.tables e below (s₁.setTop (entryFrame m #[(.int p0), (.long q1), (.long q2), (.long q3), (.long q4), (.long q5)] maxLocals)) t := by
    have pre40 : ∀ t, Steps p.tables e below (T28.setTop (mkF m 100 #[.val (.int p0), .val (.long q1), .second, .val (.long q2), .second, .val (.long q3), .second, .val (.long q4), .second, .val (.long q5), .second, .val (.int n), .val (.long w0), .second, .val (.long w5), .second, .val (.long w10), .second, .val (.long w15), .second, .val (.ref cw), .unset, .unset, .unset, .unset, .unset, .unset, .unset, .unset, .unset, .unset, .unset, .unset, .unset] [(.int (2 : Int32)), (.int n)])) t → Steps p.tables e below (s₁.setTop (entryFrame m #[(.int p0), (.long q1), (.long q2), (.long q3), (.long q4), (.long q5)] maxLocals)) t := fun t_ k_ => pre28 t_ (by
        refine XS.iload X28.here hx rfl (hb hby at_97) rfl ?_
        show Steps p.tables e below (T28.setTop (mkF m 99 #[.val (.int p0), .val (.long q1), .second, .val (.long q2), .second, .val (.long q3), .second, .val (.long q4), .second, .val (.long q5), .second, .val (.int n), .val (.long w0), .second, .val (.long w5), .second, .val (.long w10), .second, .val (.long w15), .second, .val (.ref cw), .unset, .unset, .unset, .unset, .unset, .unset, .unset, .unset, .unset, .unset, .unset, .unset, .unset] [(.int n)])) _
        refine XS.iconst X28.here hx rfl (hb hby at_99) ?_
        show Steps p.tables e below (T28.setTop (mkF m 100 #[.val (.int p0), .val (.long q1), .second, .val (.long q2), .second, .val (.long q3), .second, .val (.long q4), .second, .val (.long q5), .second, .val (.int n), .val (.long w0), .second, .val (.long w5), .second, .val (.long w10), .second, .val (.long w15), .second, .val (.ref cw), .unset, .unset, .unset, .unset, .unset, .unset, .unset, .unset, .unset, .unset, .unset, .unset, .unset] [(.int (2 : Int32)), (.int n)])) _
        exact k_)
    by_cases c100_41 : (2 : Int32) < n
    · obtain ⟨cq42, kq42, q42a, q42b, q42c⟩ := isOf hZ e28 f35
      obtain ⟨_, _, ⟨T42, L42, k42, n42⟩, -, X42, ⟨Lc42, hQ42, l42, y42, z42⟩, st42⟩ := X28.virtualBack hx (y := (⟨"com/example/trigonal/trigonal/CumulativeWeights", "add", "(J)V"⟩ : MethodName)) (z := (⟨"com/example/trigonal/trigonal/CumulativeWeights", "add", "(J)V"⟩ : MethodName)) hown (mvT hZ (hw _ (List.mem_of_getElem? (i := 15) rfl))) (mvT hZ (hw _ (List.mem_of_getElem? (i := 16) rfl))) (notFace_of_selects (args := #[]) (mvT hZ (hw _ (List.mem_of_getElem? (i := 18) rfl)))) (mvT hZ (hw _ (List.mem_of_getElem? (i := 18) rfl))) (mvT hZ (hw _ (List.mem_of_getElem? (i := 17) rfl))) (by decide) (backOf (W := 0) (rmD l Z a0 hw [] cw w10 z28 sb G28 ([w0, w0 + w5]) h28 n0 Z28 f36 f37 f38 (by have q := hv28; rw [show min cn 2 = 2 by have := hf2.mp c100_41; omega] at q; exact q) (by simp) f35 necs gg20 gb23) hZ (hw _ (List.mem_of_getElem? (i := 19) rfl)) (hw _ (List.mem_of_getElem? (i := 3) rfl)) (by decide) (by decide)) q42a q42c (g := (mkF m 107 #[.val (.int p0), .val (.long q1), .second, .val (.long q2), .second, .val (.long q3), .second, .val (.long q4), .second, .val (.long q5), .second, .val (.int n), .val (.long w0), .second, .val (.long w5), .second, .val (.long w10), .second, .val (.long w15), .second, .val (.ref cw), .unset, .unset, .unset, .unset, .unset, .unset, .unset, .unset, .unset, .unset, .unset, .unset, .unset] [(.long w10), (.ref cw)])) rfl (by rw [hml]; rfl) (Steps.refl _) (argsL := [(.long w10)]) (rest := []) (lenOf pd0_1 rfl) rfl (by show 2 * 0 + _ ≤ _; exact Nat.le_of_eq rfl) (hb hby at_107) (fun _ _ => ⟨rfl, e28, (by decide : 2 + 0 ≤ _), (by decide : 6 + 0 ≤ _)⟩)
      dsimp only [Pt.U, Pt.locs, Pt.cells, Pt.slots] at X42 l42 y42 z42 st42 hQ42
      subst l42 y42 z42
      obtain ⟨rfl, N42q, K42, Fz42, Fs42, As42, HS42⟩ := hQ42
      have N42 := Fr.app N28 N42q
      have f43 := f35.keep K42
      have Z42 : n0 ≤ T42.heap.size := Nat.le_trans Z28 K42.1
      have pre44 : ∀ t, Steps p.tables e below (T42.setTop (mkF m 110 #[.val (.int p0), .val (.long q1), .second, .val (.long q2), .second, .val (.long q3), .second, .val (.long q4), .second, .val (.long q5), .second, .val (.int n), .val (.long w0), .second, .val (.long w5), .second, .val (.long w10), .second, .val (.long w15), .second, .val (.ref cw), .unset, .unset, .unset, .unset, .unset, .unset, .unset, .unset, .unset, .unset, .unset, .unset, .unset] [])) t → Steps p.tables e below (s₁.setTop (entryFrame m #[(.int p0), (.long q1), (.long q2), (.long q3), (.long q4), (.long q5)] maxLocals)) t := fun t_ k_ => pre40 t_ (by
          refine XS.icmpNo X28.here hx rfl (hb hby at_100) rfl (tlt c100_41).2.2.2 ?_
          show Steps p.tables e below (T28.setTop (mkF m 103 #[.val (.int p0), .val (.long q1), .second, .val (.long q2), .second, .val (.long q3), .second, .val (.long q4), .second, .val (.long q5), .second, .val (.int n), .val (.long w0), .second, .val (.long w5), .second, .val (.long w10), .second, .val (.long w15), .second, .val (.ref cw), .unset, .unset, .unset, .unset, .unset, .unset, .unset, .unset, .unset, .unset, .unset, .unset, .unset] [])) _
          refine XS.aload X28.here hx rfl (hb hby at_103) rfl rfl ?_
          show Steps p.tables e below (T28.setTop (mkF m 105 #[.val (.int p0), .val (.long q1), .second, .val (.long q2), .second, .val (.long q3), .second, .val (.long q4), .second, .val (.long q5), .second, .val (.int n), .val (.long w0), .second, .val (.long w5), .second, .val (.long w10), .second, .val (.long w15), .second, .val (.ref cw), .unset, .unset, .unset, .unset, .unset, .unset, .unset, .unset, .unset, .unset, .unset, .unset, .unset] [(.ref cw)])) _
          refine XS.lload X28.here hx rfl (hb hby at_105) rfl ?_
          show Steps p.tables e below (T28.setTop (mkF m 107 #[.val (.int p0), .val (.long q1), .second, .val (.long q2), .second, .val (.long q3), .second, .val (.long q4), .second, .val (.long q5), .second, .val (.int n), .val (.long w0), .second, .val (.long w5), .second, .val (.long w10), .second, .val (.long w15), .second, .val (.ref cw), .unset, .unset, .unset, .unset, .unset, .unset, .unset, .unset, .unset, .unset, .unset, .unset, .unset] [(.long w10), (.ref cw)])) _
          refine st42.trans ?_
          show Steps p.tables e below (T42.setTop (mkF m 110 #[.val (.int p0), .val (.long q1), .second, .val (.long q2), .second, .val (.long q3), .second, .val (.long q4), .second, .val (.long q5), .second, .val (.int n), .val (.long w0), .second, .val (.long w5), .second, .val (.long w10), .second, .val (.long w15), .second, .val (.ref cw), .unset, .unset, .unset, .unset, .unset, .unset, .unset, .unset, .unset, .unset, .unset, .unset, .unset] [])) _
          exact k_)
      exact ⟨T42, T42.heap, _, (z28 + (1 : Int32)), (oUpd G28 ([w0, w0 + w5]).length (.long (([w0, w0 + w5]).getLastD 0 + w10))), X42, rfl, N42, Z42, f43, Fz42, Fs42, As42, (by rw [show min cn 3 = 3 by have := hf2.mp c100_41; omega]; exact HS42), pre44⟩
    · have pre45 : ∀ t, Steps p.tables e below (T28.setTop (mkF m 110 #[.val (.int p0), .val (.long q1), .second, .val (.long q2), .second, .val (.long q3), .second, .val (.long q4), .second, .val (.long q5), .second, .val (.int n), .val (.long w0), .second, .val (.long w5), .second, .val (.long w10), .second, .val (.long w15), .second, .val (.ref cw), .unset, .unset, .unset, .unset, .unset, .unset, .unset, .unset, .unset, .unset, .unset, .unset, .unset] [])) t → Steps p.tables e below (s₁.setTop (entryFrame m #[(.int p0), (.long q1), (.long q2), (.long q3), (.long q4), (.long q5)] maxLocals)) t := fun t_ k_ => pre40 t_ (by
          refine XS.icmpYes X28.here hx rfl (pc0 := 100) (pc' := 110) rfl (hb hby at_100) rfl (flt c100_41).2.2.2 (by decide) (by decide) ?_
          show Steps p.tables e below (T28.setTop (mkF m 110 #[.val (.int p0), .val (.long q1), .second, .val (.long q2), .second, .val (.long q3), .second, .val (.long q4), .second, .val (.long q5), .second, .val (.int n), .val (.long w0), .second, .val (.long w5), .second, .val (.long w10), .second, .val (.long w15), .second, .val (.ref cw), .unset, .unset, .unset, .unset, .unset, .unset, .unset, .unset, .unset, .unset, .unset, .unset, .unset] [])) _
          exact k_)
      exact ⟨T28, h28, _, z28, G28, X28, e28, N28, Z28, f35, f36, f37, f38, (by rw [show min cn 3 = min cn 2 by have := mt hf2.mpr c100_41; omega]; exact hv28), pre45⟩
  obtain ⟨T50, h50, L50, z50, G50, X50, e50, N50, Z50, f57, f58, f59, f60, hv50, pre50⟩ : ∃ (T50 : State) (h50 : Heap) (L50 : List Loc) (z50 : Int32) (G50 : Nat → Value), Stand p l e room_1 s m #[(.int p0), (.long q1), (.long q2), (.long q3), (.long q4), (.long q5)] below meth c T50 L50 2 6 ∧ T50.heap = h50 ∧ Fr n0 L50 ∧ n0 ≤ h50.size ∧ Exa Z h50 cw "com/example/trigonal/trigonal/CumulativeWeights" ∧ Fld Z h50 cw "com/example/trigonal/trigonal/CumulativeWeights" "size" "I" (.int z50) ∧ Fld Z h50 cw "com/example/trigonal/trigonal/CumulativeWeights" "sums" "[J" (.ref sb) ∧ OArr Z h50 sb .long 4 G50 ∧ (own_S z50 G50 ((own_ps w0 w5 w10 w15).take (min cn 4))) ∧ ∀ t, Steps p.tables e below (T50.setTop (mkF m 123 #[.val (.int p0), .val (.long q1), .second, .val (.long q2), .second, .val (.long q3), .second, .val (.long q4), .second, .val (.long q5), .second, .val (.int n), .val (.long w0), .second, .val (.long w5), .second, .val (.long w10), .second, .val (.long w15), .second, .val (.ref cw), .unset, .unset, .unset, .unset, .unset, .unset, .unset, .unset, .unset, .unset, .unset, .unset, .unset] [])) t → Steps p.tables e below (s₁.setTop (entryFrame m #[(.int p0), (.long q1), (.long q2), (.long q3), (.long q4), (.long q5)] maxLocals)) t := by
    have pre51 : ∀ t, Steps p.tables e below (T39.setTop (mkF m 113 #[.val (.int p0), .val (.long q1), .second, .val (.long q2), .second, .val (.long q3), .second, .val (.long q4), .second, .val (.long q5), .second, .val (.int n), .val (.long w0), .second, .val (.long w5), .second, .val (.long w10), .second, .val (.long w15), .second, .val (.ref cw), .unset, .unset, .unset, .unset, .unset, .unset, .unset, .unset, .unset, .unset, .unset, .unset, .unset] [(.int (3 : Int32)), (.int n)])) t → Steps p.tables e below (s₁.setTop (entryFrame m #[(.int p0), (.long q1), (.long q2), (.long q3), (.long q4), (.long q5)] maxLocals)) t := fun t_ k_ => pre39 t_ (by
        refine XS.iload X39.here hx rfl (hb hby at_110) rfl ?_
        show Steps p.tables e below (T39.setTop (mkF m 112 #[.val (.int p0), .val (.long q1), .second, .val (.long q2), .second, .val (.long q3), .second, .val (.long q4), .second, .val (.long q5), .second, .val (.int n), .val (.long w0), .second, .val (.long w5), .second, .val (.long w10), .second, .val (.long w15), .second, .val (.ref cw), .unset, .unset, .unset, .unset, .unset, .unset, .unset, .unset, .unset, .unset, .unset, .unset, .unset] [(.int n)])) _
        refine XS.iconst X39.here hx rfl (hb hby at_112) ?_
        show Steps p.tables e below (T39.setTop (mkF m 113 #[.val (.int p0), .val (.long q1), .second, .val (.long q2), .second, .val (.long q3), .second, .val (.long q4), .second, .val (.long q5), .second, .val (.int n), .val (.long w0), .second, .val (.long w5), .second, .val (.long w10), .second, .val (.long w15), .second, .val (.ref cw), .unset, .unset, .unset, .unset, .unset, .unset, .unset, .unset, .unset, .unset, .unset, .unset, .unset] [(.int (3 : Int32)), (.int n)])) _
        exact k_)
    by_cases c113_52 : (3 : Int32) < n
    · obtain ⟨cq53, kq53, q53a, q53b, q53c⟩ := isOf hZ e39 f46
      obtain ⟨_, _, ⟨T53, L53, k53, n53⟩, -, X53, ⟨Lc53, hQ53, l53, y53, z53⟩, st53⟩ := X39.virtualBack hx (y := (⟨"com/example/trigonal/trigonal/CumulativeWeights", "add", "(J)V"⟩ : MethodName)) (z := (⟨"com/example/trigonal/trigonal/CumulativeWeights", "add", "(J)V"⟩ : MethodName)) hown (mvT hZ (hw _ (List.mem_of_getElem? (i := 15) rfl))) (mvT hZ (hw _ (List.mem_of_getElem? (i := 16) rfl))) (notFace_of_selects (args := #[]) (mvT hZ (hw _ (List.mem_of_getElem? (i := 18) rfl)))) (mvT hZ (hw _ (List.mem_of_getElem? (i := 18) rfl))) (mvT hZ (hw _ (List.mem_of_getElem? (i := 17) rfl))) (by decide) (backOf (W := 0) (rmD l Z a0 hw [] cw w15 z39 sb G39 ([w0, w0 + w5, (w0 + w5) + w10]) h39 n0 Z39 f47 f48 f49 (by have q := hv39; rw [show min cn 3 = 3 by have := hf3.mp c113_52; omega] at q; exact q) (by simp) f46 necs gg20 gb23) hZ (hw _ (List.mem_of_getElem? (i := 19) rfl)) (hw _ (List.mem_of_getElem? (i := 3) rfl)) (by decide) (by decide)) q53a q53c (g := (mkF m 120 #[.val (.int p0), .val (.long q1), .second, .val (.long q2), .second, .val (.long q3), .second, .val (.long q4), .second, .val (.long q5), .second, .val (.int n), .val (.long w0), .second, .val (.long w5), .second, .val (.long w10), .second, .val (.long w15), .second, .val (.ref cw), .unset, .unset, .unset, .unset, .unset, .unset, .unset, .unset, .unset, .unset, .unset, .unset, .unset] [(.long w15), (.ref cw)])) rfl (by rw [hml]; rfl) (Steps.refl _) (argsL := [(.long w15)]) (rest := []) (lenOf pd0_1 rfl) rfl (by show 2 * 0 + _ ≤ _; exact Nat.le_of_eq rfl) (hb hby at_120) (fun _ _ => ⟨rfl, e39, (by decide : 2 + 0 ≤ _), (by decide : 6 + 0 ≤ _)⟩)
      dsimp only [Pt.U, Pt.locs, Pt.cells, Pt.slots] at X53 l53 y53 z53 st53 hQ53
      subst l53 y53 z53
      obtain ⟨rfl, N53q, K53, Fz53, Fs53, As53, HS53⟩ := hQ53
      have N53 := Fr.app N39 N53q
      have f54 := f46.keep K53
      have Z53 : n0 ≤ T53.heap.size := Nat.le_trans Z39 K53.1
      have pre55 : ∀ t, Steps p.tables e below (T53.setTop (mkF m 123 #[.val (.int p0), .val (.long q1), .second, .val (.long q2), .second, .val (.long q3), .second, .val (.long q4), .second, .val (.long q5), .second, .val (.int n), .val (.long w0), .second, .val (.long w5), .second, .val (.long w10), .second, .val (.long w15), .second, .val (.ref cw), .unset, .unset, .unset, .unset, .unset, .unset, .unset, .unset, .unset, .unset, .unset, .unset, .unset] [])) t → Steps p.tables e below (s₁.setTop (entryFrame m #[(.int p0), (.long q1), (.long q2), (.long q3), (.long q4), (.long q5)] maxLocals)) t := fun t_ k_ => pre51 t_ (by
          refine XS.icmpNo X39.here hx rfl (hb hby at_113) rfl (tlt c113_52).2.2.2 ?_
          show Steps p.tables e below (T39.setTop (mkF m 116 #[.val (.int p0), .val (.long q1), .second, .val (.long q2), .second, .val (.long q3), .second, .val (.long q4), .second, .val (.long q5), .second, .val (.int n), .val (.long w0), .second, .val (.long w5), .second, .val (.long w10), .second, .val (.long w15), .second, .val (.ref cw), .unset, .unset, .unset, .unset, .unset, .unset, .unset, .unset, .unset, .unset, .unset, .unset, .unset] [])) _
          refine XS.aload X39.here hx rfl (hb hby at_116) rfl rfl ?_
          show Steps p.tables e below (T39.setTop (mkF m 118 #[.val (.int p0), .val (.long q1), .second, .val (.long q2), .second, .val (.long q3), .second, .val (.long q4), .second, .val (.long q5), .second, .val (.int n), .val (.long w0), .second, .val (.long w5), .second, .val (.long w10), .second, .val (.long w15), .second, .val (.ref cw), .unset, .unset, .unset, .unset, .unset, .unset, .unset, .unset, .unset, .unset, .unset, .unset, .unset] [(.ref cw)])) _
          refine XS.lload X39.here hx rfl (hb hby at_118) rfl ?_
          show Steps p.tables e below (T39.setTop (mkF m 120 #[.val (.int p0), .val (.long q1), .second, .val (.long q2), .second, .val (.long q3), .second, .val (.long q4), .second, .val (.long q5), .second, .val (.int n), .val (.long w0), .second, .val (.long w5), .second, .val (.long w10), .second, .val (.long w15), .second, .val (.ref cw), .unset, .unset, .unset, .unset, .unset, .unset, .unset, .unset, .unset, .unset, .unset, .unset, .unset] [(.long w15), (.ref cw)])) _
          refine st53.trans ?_
          show Steps p.tables e below (T53.setTop (mkF m 123 #[.val (.int p0), .val (.long q1), .second, .val (.long q2), .second, .val (.long q3), .second, .val (.long q4), .second, .val (.long q5), .second, .val (.int n), .val (.long w0), .second, .val (.long w5), .second, .val (.long w10), .second, .val (.long w15), .second, .val (.ref cw), .unset, .unset, .unset, .unset, .unset, .unset, .unset, .unset, .unset, .unset, .unset, .unset, .unset] [])) _
          exact k_)
      exact ⟨T53, T53.heap, _, (z39 + (1 : Int32)), (oUpd G39 ([w0, w0 + w5, (w0 + w5) + w10]).length (.long (([w0, w0 + w5, (w0 + w5) + w10]).getLastD 0 + w15))), X53, rfl, N53, Z53, f54, Fz53, Fs53, As53, (by rw [show min cn 4 = 4 by have := hf3.mp c113_52; omega]; exact HS53), pre55⟩
    · have pre56 : ∀ t, Steps p.tables e below (T39.setTop (mkF m 123 #[.val (.int p0), .val (.long q1), .second, .val (.long q2), .second, .val (.long q3), .second, .val (.long q4), .second, .val (.long q5), .second, .val (.int n), .val (.long w0), .second, .val (.long w5), .second, .val (.long w10), .second, .val (.long w15), .second, .val (.ref cw), .unset, .unset, .unset, .unset, .unset, .unset, .unset, .unset, .unset, .unset, .unset, .unset, .unset] [])) t → Steps p.tables e below (s₁.setTop (entryFrame m #[(.int p0), (.long q1), (.long q2), (.long q3), (.long q4), (.long q5)] maxLocals)) t := fun t_ k_ => pre51 t_ (by
          refine XS.icmpYes X39.here hx rfl (pc0 := 113) (pc' := 123) rfl (hb hby at_113) rfl (flt c113_52).2.2.2 (by decide) (by decide) ?_
          show Steps p.tables e below (T39.setTop (mkF m 123 #[.val (.int p0), .val (.long q1), .second, .val (.long q2), .second, .val (.long q3), .second, .val (.long q4), .second, .val (.long q5), .second, .val (.int n), .val (.long w0), .second, .val (.long w5), .second, .val (.long w10), .second, .val (.long w15), .second, .val (.ref cw), .unset, .unset, .unset, .unset, .unset, .unset, .unset, .unset, .unset, .unset, .unset, .unset, .unset] [])) _
          exact k_)
      exact ⟨T39, h39, _, z39, G39, X39, e39, N39, Z39, f46, f47, f48, f49, (by rw [show min cn 4 = min cn 3 by have := mt hf3.mpr c113_52; omega]; exact hv39), pre56⟩
  have hSc : own_S z50 G50 ((own_ps w0 w5 w10 w15).take cn) := by have q := hv50; rw [show min cn 4 = cn by omega] at q; exact q
  have hlen : ((own_ps w0 w5 w10 w15).take cn).length = cn := own_lenps _ _ _ _ hc4
  have pre61 : ∀ t, Steps p.tables e below (T50.setTop (mkF m 134 #[.val (.int p0), .val (.long q1), .second, .val (.long q2), .second, .val (.long q3), .second, .val (.long q4), .second, .val (.long q5), .second, .val (.int n), .val (.long w0), .second, .val (.long w5), .second, .val (.long w10), .second, .val (.long w15), .second, .val (.ref cw), .val (.long w0), .second, .val (.long (w0 + w5)), .second, .unset, .unset, .unset, .unset, .unset, .unset, .unset, .unset, .unset] [])) t → Steps p.tables e below (s₁.setTop (entryFrame m #[(.int p0), (.long q1), (.long q2), (.long q3), (.long q4), (.long q5)] maxLocals)) t := fun t_ k_ => pre50 t_ (by
      refine XS.lload X50.here hx rfl (hb hby at_123) rfl ?_
      show Steps p.tables e below (T50.setTop (mkF m 125 #[.val (.int p0), .val (.long q1), .second, .val (.long q2), .second, .val (.long q3), .second, .val (.long q4), .second, .val (.long q5), .second, .val (.int n), .val (.long w0), .second, .val (.long w5), .second, .val (.long w10), .second, .val (.long w15), .second, .val (.ref cw), .unset, .unset, .unset, .unset, .unset, .unset, .unset, .unset, .unset, .unset, .unset, .unset, .unset] [(.long w0)])) _
      refine XS.lstore X50.here hx rfl (hb hby at_125) rfl (l' := #[.val (.int p0), .val (.long q1), .second, .val (.long q2), .second, .val (.long q3), .second, .val (.long q4), .second, .val (.long q5), .second, .val (.int n), .val (.long w0), .second, .val (.long w5), .second, .val (.long w10), .second, .val (.long w15), .second, .val (.ref cw), .val (.long w0), .second, .unset, .unset, .unset, .unset, .unset, .unset, .unset, .unset, .unset, .unset, .unset]) rfl ?_
      show Steps p.tables e below (T50.setTop (mkF m 127 #[.val (.int p0), .val (.long q1), .second, .val (.long q2), .second, .val (.long q3), .second, .val (.long q4), .second, .val (.long q5), .second, .val (.int n), .val (.long w0), .second, .val (.long w5), .second, .val (.long w10), .second, .val (.long w15), .second, .val (.ref cw), .val (.long w0), .second, .unset, .unset, .unset, .unset, .unset, .unset, .unset, .unset, .unset, .unset, .unset] [])) _
      refine XS.lload X50.here hx rfl (hb hby at_127) rfl ?_
      show Steps p.tables e below (T50.setTop (mkF m 129 #[.val (.int p0), .val (.long q1), .second, .val (.long q2), .second, .val (.long q3), .second, .val (.long q4), .second, .val (.long q5), .second, .val (.int n), .val (.long w0), .second, .val (.long w5), .second, .val (.long w10), .second, .val (.long w15), .second, .val (.ref cw), .val (.long w0), .second, .unset, .unset, .unset, .unset, .unset, .unset, .unset, .unset, .unset, .unset, .unset] [(.long w0)])) _
      refine XS.lload X50.here hx rfl (hb hby at_129) rfl ?_
      show Steps p.tables e below (T50.setTop (mkF m 131 #[.val (.int p0), .val (.long q1), .second, .val (.long q2), .second, .val (.long q3), .second, .val (.long q4), .second, .val (.long q5), .second, .val (.int n), .val (.long w0), .second, .val (.long w5), .second, .val (.long w10), .second, .val (.long w15), .second, .val (.ref cw), .val (.long w0), .second, .unset, .unset, .unset, .unset, .unset, .unset, .unset, .unset, .unset, .unset, .unset] [(.long w5), (.long w0)])) _
      refine XS.ladd X50.here hx rfl (hb hby at_131) rfl ?_
      show Steps p.tables e below (T50.setTop (mkF m 132 #[.val (.int p0), .val (.long q1), .second, .val (.long q2), .second, .val (.long q3), .second, .val (.long q4), .second, .val (.long q5), .second, .val (.int n), .val (.long w0), .second, .val (.long w5), .second, .val (.long w10), .second, .val (.long w15), .second, .val (.ref cw), .val (.long w0), .second, .unset, .unset, .unset, .unset, .unset, .unset, .unset, .unset, .unset, .unset, .unset] [(.long (w0 + w5))])) _
      refine XS.lstore X50.here hx rfl (hb hby at_132) rfl (l' := #[.val (.int p0), .val (.long q1), .second, .val (.long q2), .second, .val (.long q3), .second, .val (.long q4), .second, .val (.long q5), .second, .val (.int n), .val (.long w0), .second, .val (.long w5), .second, .val (.long w10), .second, .val (.long w15), .second, .val (.ref cw), .val (.long w0), .second, .val (.long (w0 + w5)), .second, .unset, .unset, .unset, .unset, .unset, .unset, .unset, .unset, .unset]) rfl ?_
      show Steps p.tables e below (T50.setTop (mkF m 134 #[.val (.int p0), .val (.long q1), .second, .val (.long q2), .second, .val (.long q3), .second, .val (.long q4), .second, .val (.long q5), .second, .val (.int n), .val (.long w0), .second, .val (.long w5), .second, .val (.long w10), .second, .val (.long w15), .second, .val (.ref cw), .val (.long w0), .second, .val (.long (w0 + w5)), .second, .unset, .unset, .unset, .unset, .unset, .unset, .unset, .unset, .unset] [])) _
      exact k_)
  obtain ⟨p1, e_p1⟩ : ∃ z : Int64, z = (w0 + w5) := ⟨_, rfl⟩
  have pre62 : ∀ t, Steps p.tables e below (T50.setTop (mkF m 134 #[.val (.int p0), .val (.long q1), .second, .val (.long q2), .second, .val (.long q3), .second, .val (.long q4), .second, .val (.long q5), .second, .val (.int n), .val (.long w0), .second, .val (.long w5), .second, .val (.long w10), .second, .val (.long w15), .second, .val (.ref cw), .val (.long w0), .second, .val (.long p1), .second, .unset, .unset, .unset, .unset, .unset, .unset, .unset, .unset, .unset] [])) t → Steps p.tables e below (s₁.setTop (entryFrame m #[(.int p0), (.long q1), (.long q2), (.long q3), (.long q4), (.long q5)] maxLocals)) t := by subst e_p1; exact pre61
  have pre63 : ∀ t, Steps p.tables e below (T50.setTop (mkF m 141 #[.val (.int p0), .val (.long q1), .second, .val (.long q2), .second, .val (.long q3), .second, .val (.long q4), .second, .val (.long q5), .second, .val (.int n), .val (.long w0), .second, .val (.long w5), .second, .val (.long w10), .second, .val (.long w15), .second, .val (.ref cw), .val (.long w0), .second, .val (.long p1), .second, .val (.long (p1 + w10)), .second, .unset, .unset, .unset, .unset, .unset, .unset, .unset] [])) t → Steps p.tables e below (s₁.setTop (entryFrame m #[(.int p0), (.long q1), (.long q2), (.long q3), (.long q4), (.long q5)] maxLocals)) t := fun t_ k_ => pre62 t_ (by
      refine XS.lload X50.here hx rfl (hb hby at_134) rfl ?_
      show Steps p.tables e below (T50.setTop (mkF m 136 #[.val (.int p0), .val (.long q1), .second, .val (.long q2), .second, .val (.long q3), .second, .val (.long q4), .second, .val (.long q5), .second, .val (.int n), .val (.long w0), .second, .val (.long w5), .second, .val (.long w10), .second, .val (.long w15), .second, .val (.ref cw), .val (.long w0), .second, .val (.long p1), .second, .unset, .unset, .unset, .unset, .unset, .unset, .unset, .unset, .unset] [(.long p1)])) _
      refine XS.lload X50.here hx rfl (hb hby at_136) rfl ?_
      show Steps p.tables e below (T50.setTop (mkF m 138 #[.val (.int p0), .val (.long q1), .second, .val (.long q2), .second, .val (.long q3), .second, .val (.long q4), .second, .val (.long q5), .second, .val (.int n), .val (.long w0), .second, .val (.long w5), .second, .val (.long w10), .second, .val (.long w15), .second, .val (.ref cw), .val (.long w0), .second, .val (.long p1), .second, .unset, .unset, .unset, .unset, .unset, .unset, .unset, .unset, .unset] [(.long w10), (.long p1)])) _
      refine XS.ladd X50.here hx rfl (hb hby at_138) rfl ?_
      show Steps p.tables e below (T50.setTop (mkF m 139 #[.val (.int p0), .val (.long q1), .second, .val (.long q2), .second, .val (.long q3), .second, .val (.long q4), .second, .val (.long q5), .second, .val (.int n), .val (.long w0), .second, .val (.long w5), .second, .val (.long w10), .second, .val (.long w15), .second, .val (.ref cw), .val (.long w0), .second, .val (.long p1), .second, .unset, .unset, .unset, .unset, .unset, .unset, .unset, .unset, .unset] [(.long (p1 + w10))])) _
      refine XS.lstore X50.here hx rfl (hb hby at_139) rfl (l' := #[.val (.int p0), .val (.long q1), .second, .val (.long q2), .second, .val (.long q3), .second, .val (.long q4), .second, .val (.long q5), .second, .val (.int n), .val (.long w0), .second, .val (.long w5), .second, .val (.long w10), .second, .val (.long w15), .second, .val (.ref cw), .val (.long w0), .second, .val (.long p1), .second, .val (.long (p1 + w10)), .second, .unset, .unset, .unset, .unset, .unset, .unset, .unset]) rfl ?_
      show Steps p.tables e below (T50.setTop (mkF m 141 #[.val (.int p0), .val (.long q1), .second, .val (.long q2), .second, .val (.long q3), .second, .val (.long q4), .second, .val (.long q5), .second, .val (.int n), .val (.long w0), .second, .val (.long w5), .second, .val (.long w10), .second, .val (.long w15), .second, .val (.ref cw), .val (.long w0), .second, .val (.long p1), .second, .val (.long (p1 + w10)), .second, .unset, .unset, .unset, .unset, .unset, .unset, .unset] [])) _
      exact k_)
  obtain ⟨p2, e_p2⟩ : ∃ z : Int64, z = (p1 + w10) := ⟨_, rfl⟩
  have pre64 : ∀ t, Steps p.tables e below (T50.setTop (mkF m 141 #[.val (.int p0), .val (.long q1), .second, .val (.long q2), .second, .val (.long q3), .second, .val (.long q4), .second, .val (.long q5), .second, .val (.int n), .val (.long w0), .second, .val (.long w5), .second, .val (.long w10), .second, .val (.long w15), .second, .val (.ref cw), .val (.long w0), .second, .val (.long p1), .second, .val (.long p2), .second, .unset, .unset, .unset, .unset, .unset, .unset, .unset] [])) t → Steps p.tables e below (s₁.setTop (entryFrame m #[(.int p0), (.long q1), (.long q2), (.long q3), (.long q4), (.long q5)] maxLocals)) t := by subst e_p2; exact pre63
  have pre65 : ∀ t, Steps p.tables e below (T50.setTop (mkF m 148 #[.val (.int p0), .val (.long q1), .second, .val (.long q2), .second, .val (.long q3), .second, .val (.long q4), .second, .val (.long q5), .second, .val (.int n), .val (.long w0), .second, .val (.long w5), .second, .val (.long w10), .second, .val (.long w15), .second, .val (.ref cw), .val (.long w0), .second, .val (.long p1), .second, .val (.long p2), .second, .val (.long (p2 + w15)), .second, .unset, .unset, .unset, .unset, .unset] [])) t → Steps p.tables e below (s₁.setTop (entryFrame m #[(.int p0), (.long q1), (.long q2), (.long q3), (.long q4), (.long q5)] maxLocals)) t := fun t_ k_ => pre64 t_ (by
      refine XS.lload X50.here hx rfl (hb hby at_141) rfl ?_
      show Steps p.tables e below (T50.setTop (mkF m 143 #[.val (.int p0), .val (.long q1), .second, .val (.long q2), .second, .val (.long q3), .second, .val (.long q4), .second, .val (.long q5), .second, .val (.int n), .val (.long w0), .second, .val (.long w5), .second, .val (.long w10), .second, .val (.long w15), .second, .val (.ref cw), .val (.long w0), .second, .val (.long p1), .second, .val (.long p2), .second, .unset, .unset, .unset, .unset, .unset, .unset, .unset] [(.long p2)])) _
      refine XS.lload X50.here hx rfl (hb hby at_143) rfl ?_
      show Steps p.tables e below (T50.setTop (mkF m 145 #[.val (.int p0), .val (.long q1), .second, .val (.long q2), .second, .val (.long q3), .second, .val (.long q4), .second, .val (.long q5), .second, .val (.int n), .val (.long w0), .second, .val (.long w5), .second, .val (.long w10), .second, .val (.long w15), .second, .val (.ref cw), .val (.long w0), .second, .val (.long p1), .second, .val (.long p2), .second, .unset, .unset, .unset, .unset, .unset, .unset, .unset] [(.long w15), (.long p2)])) _
      refine XS.ladd X50.here hx rfl (hb hby at_145) rfl ?_
      show Steps p.tables e below (T50.setTop (mkF m 146 #[.val (.int p0), .val (.long q1), .second, .val (.long q2), .second, .val (.long q3), .second, .val (.long q4), .second, .val (.long q5), .second, .val (.int n), .val (.long w0), .second, .val (.long w5), .second, .val (.long w10), .second, .val (.long w15), .second, .val (.ref cw), .val (.long w0), .second, .val (.long p1), .second, .val (.long p2), .second, .unset, .unset, .unset, .unset, .unset, .unset, .unset] [(.long (p2 + w15))])) _
      refine XS.lstore X50.here hx rfl (hb hby at_146) rfl (l' := #[.val (.int p0), .val (.long q1), .second, .val (.long q2), .second, .val (.long q3), .second, .val (.long q4), .second, .val (.long q5), .second, .val (.int n), .val (.long w0), .second, .val (.long w5), .second, .val (.long w10), .second, .val (.long w15), .second, .val (.ref cw), .val (.long w0), .second, .val (.long p1), .second, .val (.long p2), .second, .val (.long (p2 + w15)), .second, .unset, .unset, .unset, .unset, .unset]) rfl ?_
      show Steps p.tables e below (T50.setTop (mkF m 148 #[.val (.int p0), .val (.long q1), .second, .val (.long q2), .second, .val (.long q3), .second, .val (.long q4), .second, .val (.long q5), .second, .val (.int n), .val (.long w0), .second, .val (.long w5), .second, .val (.long w10), .second, .val (.long w15), .second, .val (.ref cw), .val (.long w0), .second, .val (.long p1), .second, .val (.long p2), .second, .val (.long (p2 + w15)), .second, .unset, .unset, .unset, .unset, .unset] [])) _
      exact k_)
  obtain ⟨p3, e_p3⟩ : ∃ z : Int64, z = (p2 + w15) := ⟨_, rfl⟩
  have pre66 : ∀ t, Steps p.tables e below (T50.setTop (mkF m 148 #[.val (.int p0), .val (.long q1), .second, .val (.long q2), .second, .val (.long q3), .second, .val (.long q4), .second, .val (.long q5), .second, .val (.int n), .val (.long w0), .second, .val (.long w5), .second, .val (.long w10), .second, .val (.long w15), .second, .val (.ref cw), .val (.long w0), .second, .val (.long p1), .second, .val (.long p2), .second, .val (.long p3), .second, .unset, .unset, .unset, .unset, .unset] [])) t → Steps p.tables e below (s₁.setTop (entryFrame m #[(.int p0), (.long q1), (.long q2), (.long q3), (.long q4), (.long q5)] maxLocals)) t := by subst e_p3; exact pre65
  obtain ⟨tt67, hv67, pre67⟩ : ∃ (tt67 : Int64), (tt67 = p3) ∧ ∀ t, Steps p.tables e below (T50.setTop (mkF m 183 #[.val (.int p0), .val (.long q1), .second, .val (.long q2), .second, .val (.long q3), .second, .val (.long q4), .second, .val (.long q5), .second, .val (.int n), .val (.long w0), .second, .val (.long w5), .second, .val (.long w10), .second, .val (.long w15), .second, .val (.ref cw), .val (.long w0), .second, .val (.long p1), .second, .val (.long p2), .second, .val (.long p3), .second, .unset, .unset, .unset, .unset, .unset] [(.long tt67)])) t → Steps p.tables e below (s₁.setTop (entryFrame m #[(.int p0), (.long q1), (.long q2), (.long q3), (.long q4), (.long q5)] maxLocals)) t := by
    have pre68 : ∀ t, Steps p.tables e below (T50.setTop (mkF m 151 #[.val (.int p0), .val (.long q1), .second, .val (.long q2), .second, .val (.long q3), .second, .val (.long q4), .second, .val (.long q5), .second, .val (.int n), .val (.long w0), .second, .val (.long w5), .second, .val (.long w10), .second, .val (.long w15), .second, .val (.ref cw), .val (.long w0), .second, .val (.long p1), .second, .val (.long p2), .second, .val (.long p3), .second, .unset, .unset, .unset, .unset, .unset] [(.int (1 : Int32)), (.int n)])) t → Steps p.tables e below (s₁.setTop (entryFrame m #[(.int p0), (.long q1), (.long q2), (.long q3), (.long q4), (.long q5)] maxLocals)) t := fun t_ k_ => pre66 t_ (by
        refine XS.iload X50.here hx rfl (hb hby at_148) rfl ?_
        show Steps p.tables e below (T50.setTop (mkF m 150 #[.val (.int p0), .val (.long q1), .second, .val (.long q2), .second, .val (.long q3), .second, .val (.long q4), .second, .val (.long q5), .second, .val (.int n), .val (.long w0), .second, .val (.long w5), .second, .val (.long w10), .second, .val (.long w15), .second, .val (.ref cw), .val (.long w0), .second, .val (.long p1), .second, .val (.long p2), .second, .val (.long p3), .second, .unset, .unset, .unset, .unset, .unset] [(.int n)])) _
        refine XS.iconst X50.here hx rfl (hb hby at_150) ?_
        show Steps p.tables e below (T50.setTop (mkF m 151 #[.val (.int p0), .val (.long q1), .second, .val (.long q2), .second, .val (.long q3), .second, .val (.long q4), .second, .val (.long q5), .second, .val (.int n), .val (.long w0), .second, .val (.long w5), .second, .val (.long w10), .second, .val (.long w15), .second, .val (.ref cw), .val (.long w0), .second, .val (.long p1), .second, .val (.long p2), .second, .val (.long p3), .second, .unset, .unset, .unset, .unset, .unset] [(.int (1 : Int32)), (.int n)])) _
        exact k_)
    by_cases c151_69 : n = (1 : Int32)
    · have pre70 : ∀ t, Steps p.tables e below (T50.setTop (mkF m 183 #[.val (.int p0), .val (.long q1), .second, .val (.long q2), .second, .val (.long q3), .second, .val (.long q4), .second, .val (.long q5), .second, .val (.int n), .val (.long w0), .second, .val (.long w5), .second, .val (.long w10), .second, .val (.long w15), .second, .val (.ref cw), .val (.long w0), .second, .val (.long p1), .second, .val (.long p2), .second, .val (.long p3), .second, .unset, .unset, .unset, .unset, .unset] [(.long w0)])) t → Steps p.tables e below (s₁.setTop (entryFrame m #[(.int p0), (.long q1), (.long q2), (.long q3), (.long q4), (.long q5)] maxLocals)) t := fun t_ k_ => pre68 t_ (by
          refine XS.icmpNo X50.here hx rfl (hb hby at_151) rfl (teq c151_69).2 ?_
          show Steps p.tables e below (T50.setTop (mkF m 154 #[.val (.int p0), .val (.long q1), .second, .val (.long q2), .second, .val (.long q3), .second, .val (.long q4), .second, .val (.long q5), .second, .val (.int n), .val (.long w0), .second, .val (.long w5), .second, .val (.long w10), .second, .val (.long w15), .second, .val (.ref cw), .val (.long w0), .second, .val (.long p1), .second, .val (.long p2), .second, .val (.long p3), .second, .unset, .unset, .unset, .unset, .unset] [])) _
          refine XS.lload X50.here hx rfl (hb hby at_154) rfl ?_
          show Steps p.tables e below (T50.setTop (mkF m 156 #[.val (.int p0), .val (.long q1), .second, .val (.long q2), .second, .val (.long q3), .second, .val (.long q4), .second, .val (.long q5), .second, .val (.int n), .val (.long w0), .second, .val (.long w5), .second, .val (.long w10), .second, .val (.long w15), .second, .val (.ref cw), .val (.long w0), .second, .val (.long p1), .second, .val (.long p2), .second, .val (.long p3), .second, .unset, .unset, .unset, .unset, .unset] [(.long w0)])) _
          refine XS.goto X50.here hx rfl (pc0 := 156) (pc' := 183) rfl (hb hby at_156) (by decide) (by decide) ?_
          show Steps p.tables e below (T50.setTop (mkF m 183 #[.val (.int p0), .val (.long q1), .second, .val (.long q2), .second, .val (.long q3), .second, .val (.long q4), .second, .val (.long q5), .second, .val (.int n), .val (.long w0), .second, .val (.long w5), .second, .val (.long w10), .second, .val (.long w15), .second, .val (.ref cw), .val (.long w0), .second, .val (.long p1), .second, .val (.long p2), .second, .val (.long p3), .second, .unset, .unset, .unset, .unset, .unset] [(.long w0)])) _
          exact k_)
      exact ⟨w0, (by rw [e_p3, e_p2, e_p1, hv5.2 (by rw [c151_69] at hnc; have q : (1 : Int) = (cn : Int) := hnc; omega), hv10.2 (by rw [c151_69] at hnc; have q : (1 : Int) = (cn : Int) := hnc; omega), hv15.2 (by rw [c151_69] at hnc; have q : (1 : Int) = (cn : Int) := hnc; omega)]; simp), pre70⟩
    · have pre71 : ∀ t, Steps p.tables e below (T50.setTop (mkF m 162 #[.val (.int p0), .val (.long q1), .second, .val (.long q2), .second, .val (.long q3), .second, .val (.long q4), .second, .val (.long q5), .second, .val (.int n), .val (.long w0), .second, .val (.long w5), .second, .val (.long w10), .second, .val (.long w15), .second, .val (.ref cw), .val (.long w0), .second, .val (.long p1), .second, .val (.long p2), .second, .val (.long p3), .second, .unset, .unset, .unset, .unset, .unset] [(.int (2 : Int32)), (.int n)])) t → Steps p.tables e below (s₁.setTop (entryFrame m #[(.int p0), (.long q1), (.long q2), (.long q3), (.long q4), (.long q5)] maxLocals)) t := fun t_ k_ => pre68 t_ (by
          refine XS.icmpYes X50.here hx rfl (pc0 := 151) (pc' := 159) rfl (hb hby at_151) rfl (feq c151_69).2 (by decide) (by decide) ?_
          show Steps p.tables e below (T50.setTop (mkF m 159 #[.val (.int p0), .val (.long q1), .second, .val (.long q2), .second, .val (.long q3), .second, .val (.long q4), .second, .val (.long q5), .second, .val (.int n), .val (.long w0), .second, .val (.long w5), .second, .val (.long w10), .second, .val (.long w15), .second, .val (.ref cw), .val (.long w0), .second, .val (.long p1), .second, .val (.long p2), .second, .val (.long p3), .second, .unset, .unset, .unset, .unset, .unset] [])) _
          refine XS.iload X50.here hx rfl (hb hby at_159) rfl ?_
          show Steps p.tables e below (T50.setTop (mkF m 161 #[.val (.int p0), .val (.long q1), .second, .val (.long q2), .second, .val (.long q3), .second, .val (.long q4), .second, .val (.long q5), .second, .val (.int n), .val (.long w0), .second, .val (.long w5), .second, .val (.long w10), .second, .val (.long w15), .second, .val (.ref cw), .val (.long w0), .second, .val (.long p1), .second, .val (.long p2), .second, .val (.long p3), .second, .unset, .unset, .unset, .unset, .unset] [(.int n)])) _
          refine XS.iconst X50.here hx rfl (hb hby at_161) ?_
          show Steps p.tables e below (T50.setTop (mkF m 162 #[.val (.int p0), .val (.long q1), .second, .val (.long q2), .second, .val (.long q3), .second, .val (.long q4), .second, .val (.long q5), .second, .val (.int n), .val (.long w0), .second, .val (.long w5), .second, .val (.long w10), .second, .val (.long w15), .second, .val (.ref cw), .val (.long w0), .second, .val (.long p1), .second, .val (.long p2), .second, .val (.long p3), .second, .unset, .unset, .unset, .unset, .unset] [(.int (2 : Int32)), (.int n)])) _
          exact k_)
      by_cases c162_72 : n = (2 : Int32)
      · have pre73 : ∀ t, Steps p.tables e below (T50.setTop (mkF m 183 #[.val (.int p0), .val (.long q1), .second, .val (.long q2), .second, .val (.long q3), .second, .val (.long q4), .second, .val (.long q5), .second, .val (.int n), .val (.long w0), .second, .val (.long w5), .second, .val (.long w10), .second, .val (.long w15), .second, .val (.ref cw), .val (.long w0), .second, .val (.long p1), .second, .val (.long p2), .second, .val (.long p3), .second, .unset, .unset, .unset, .unset, .unset] [(.long p1)])) t → Steps p.tables e below (s₁.setTop (entryFrame m #[(.int p0), (.long q1), (.long q2), (.long q3), (.long q4), (.long q5)] maxLocals)) t := fun t_ k_ => pre71 t_ (by
            refine XS.icmpNo X50.here hx rfl (hb hby at_162) rfl (teq c162_72).2 ?_
            show Steps p.tables e below (T50.setTop (mkF m 165 #[.val (.int p0), .val (.long q1), .second, .val (.long q2), .second, .val (.long q3), .second, .val (.long q4), .second, .val (.long q5), .second, .val (.int n), .val (.long w0), .second, .val (.long w5), .second, .val (.long w10), .second, .val (.long w15), .second, .val (.ref cw), .val (.long w0), .second, .val (.long p1), .second, .val (.long p2), .second, .val (.long p3), .second, .unset, .unset, .unset, .unset, .unset] [])) _
            refine XS.lload X50.here hx rfl (hb hby at_165) rfl ?_
            show Steps p.tables e below (T50.setTop (mkF m 167 #[.val (.int p0), .val (.long q1), .second, .val (.long q2), .second, .val (.long q3), .second, .val (.long q4), .second, .val (.long q5), .second, .val (.int n), .val (.long w0), .second, .val (.long w5), .second, .val (.long w10), .second, .val (.long w15), .second, .val (.ref cw), .val (.long w0), .second, .val (.long p1), .second, .val (.long p2), .second, .val (.long p3), .second, .unset, .unset, .unset, .unset, .unset] [(.long p1)])) _
            refine XS.goto X50.here hx rfl (pc0 := 167) (pc' := 183) rfl (hb hby at_167) (by decide) (by decide) ?_
            show Steps p.tables e below (T50.setTop (mkF m 183 #[.val (.int p0), .val (.long q1), .second, .val (.long q2), .second, .val (.long q3), .second, .val (.long q4), .second, .val (.long q5), .second, .val (.int n), .val (.long w0), .second, .val (.long w5), .second, .val (.long w10), .second, .val (.long w15), .second, .val (.ref cw), .val (.long w0), .second, .val (.long p1), .second, .val (.long p2), .second, .val (.long p3), .second, .unset, .unset, .unset, .unset, .unset] [(.long p1)])) _
            exact k_)
        exact ⟨p1, (by rw [e_p3, e_p2, hv10.2 (by rw [c162_72] at hnc; have q : (2 : Int) = (cn : Int) := hnc; omega), hv15.2 (by rw [c162_72] at hnc; have q : (2 : Int) = (cn : Int) := hnc; omega)]; simp), pre73⟩
      · have pre74 : ∀ t, Steps p.tables e below (T50.setTop (mkF m 173 #[.val (.int p0), .val (.long q1), .second, .val (.long q2), .second, .val (.long q3), .second, .val (.long q4), .second, .val (.long q5), .second, .val (.int n), .val (.long w0), .second, .val (.long w5), .second, .val (.long w10), .second, .val (.long w15), .second, .val (.ref cw), .val (.long w0), .second, .val (.long p1), .second, .val (.long p2), .second, .val (.long p3), .second, .unset, .unset, .unset, .unset, .unset] [(.int (3 : Int32)), (.int n)])) t → Steps p.tables e below (s₁.setTop (entryFrame m #[(.int p0), (.long q1), (.long q2), (.long q3), (.long q4), (.long q5)] maxLocals)) t := fun t_ k_ => pre71 t_ (by
            refine XS.icmpYes X50.here hx rfl (pc0 := 162) (pc' := 170) rfl (hb hby at_162) rfl (feq c162_72).2 (by decide) (by decide) ?_
            show Steps p.tables e below (T50.setTop (mkF m 170 #[.val (.int p0), .val (.long q1), .second, .val (.long q2), .second, .val (.long q3), .second, .val (.long q4), .second, .val (.long q5), .second, .val (.int n), .val (.long w0), .second, .val (.long w5), .second, .val (.long w10), .second, .val (.long w15), .second, .val (.ref cw), .val (.long w0), .second, .val (.long p1), .second, .val (.long p2), .second, .val (.long p3), .second, .unset, .unset, .unset, .unset, .unset] [])) _
            refine XS.iload X50.here hx rfl (hb hby at_170) rfl ?_
            show Steps p.tables e below (T50.setTop (mkF m 172 #[.val (.int p0), .val (.long q1), .second, .val (.long q2), .second, .val (.long q3), .second, .val (.long q4), .second, .val (.long q5), .second, .val (.int n), .val (.long w0), .second, .val (.long w5), .second, .val (.long w10), .second, .val (.long w15), .second, .val (.ref cw), .val (.long w0), .second, .val (.long p1), .second, .val (.long p2), .second, .val (.long p3), .second, .unset, .unset, .unset, .unset, .unset] [(.int n)])) _
            refine XS.iconst X50.here hx rfl (hb hby at_172) ?_
            show Steps p.tables e below (T50.setTop (mkF m 173 #[.val (.int p0), .val (.long q1), .second, .val (.long q2), .second, .val (.long q3), .second, .val (.long q4), .second, .val (.long q5), .second, .val (.int n), .val (.long w0), .second, .val (.long w5), .second, .val (.long w10), .second, .val (.long w15), .second, .val (.ref cw), .val (.long w0), .second, .val (.long p1), .second, .val (.long p2), .second, .val (.long p3), .second, .unset, .unset, .unset, .unset, .unset] [(.int (3 : Int32)), (.int n)])) _
            exact k_)
        by_cases c173_75 : n = (3 : Int32)
        · have pre76 : ∀ t, Steps p.tables e below (T50.setTop (mkF m 183 #[.val (.int p0), .val (.long q1), .second, .val (.long q2), .second, .val (.long q3), .second, .val (.long q4), .second, .val (.long q5), .second, .val (.int n), .val (.long w0), .second, .val (.long w5), .second, .val (.long w10), .second, .val (.long w15), .second, .val (.ref cw), .val (.long w0), .second, .val (.long p1), .second, .val (.long p2), .second, .val (.long p3), .second, .unset, .unset, .unset, .unset, .unset] [(.long p2)])) t → Steps p.tables e below (s₁.setTop (entryFrame m #[(.int p0), (.long q1), (.long q2), (.long q3), (.long q4), (.long q5)] maxLocals)) t := fun t_ k_ => pre74 t_ (by
              refine XS.icmpNo X50.here hx rfl (hb hby at_173) rfl (teq c173_75).2 ?_
              show Steps p.tables e below (T50.setTop (mkF m 176 #[.val (.int p0), .val (.long q1), .second, .val (.long q2), .second, .val (.long q3), .second, .val (.long q4), .second, .val (.long q5), .second, .val (.int n), .val (.long w0), .second, .val (.long w5), .second, .val (.long w10), .second, .val (.long w15), .second, .val (.ref cw), .val (.long w0), .second, .val (.long p1), .second, .val (.long p2), .second, .val (.long p3), .second, .unset, .unset, .unset, .unset, .unset] [])) _
              refine XS.lload X50.here hx rfl (hb hby at_176) rfl ?_
              show Steps p.tables e below (T50.setTop (mkF m 178 #[.val (.int p0), .val (.long q1), .second, .val (.long q2), .second, .val (.long q3), .second, .val (.long q4), .second, .val (.long q5), .second, .val (.int n), .val (.long w0), .second, .val (.long w5), .second, .val (.long w10), .second, .val (.long w15), .second, .val (.ref cw), .val (.long w0), .second, .val (.long p1), .second, .val (.long p2), .second, .val (.long p3), .second, .unset, .unset, .unset, .unset, .unset] [(.long p2)])) _
              refine XS.goto X50.here hx rfl (pc0 := 178) (pc' := 183) rfl (hb hby at_178) (by decide) (by decide) ?_
              show Steps p.tables e below (T50.setTop (mkF m 183 #[.val (.int p0), .val (.long q1), .second, .val (.long q2), .second, .val (.long q3), .second, .val (.long q4), .second, .val (.long q5), .second, .val (.int n), .val (.long w0), .second, .val (.long w5), .second, .val (.long w10), .second, .val (.long w15), .second, .val (.ref cw), .val (.long w0), .second, .val (.long p1), .second, .val (.long p2), .second, .val (.long p3), .second, .unset, .unset, .unset, .unset, .unset] [(.long p2)])) _
              exact k_)
          exact ⟨p2, (by rw [e_p3, hv15.2 (by rw [c173_75] at hnc; have q : (3 : Int) = (cn : Int) := hnc; omega)]; simp), pre76⟩
        · have pre77 : ∀ t, Steps p.tables e below (T50.setTop (mkF m 183 #[.val (.int p0), .val (.long q1), .second, .val (.long q2), .second, .val (.long q3), .second, .val (.long q4), .second, .val (.long q5), .second, .val (.int n), .val (.long w0), .second, .val (.long w5), .second, .val (.long w10), .second, .val (.long w15), .second, .val (.ref cw), .val (.long w0), .second, .val (.long p1), .second, .val (.long p2), .second, .val (.long p3), .second, .unset, .unset, .unset, .unset, .unset] [(.long p3)])) t → Steps p.tables e below (s₁.setTop (entryFrame m #[(.int p0), (.long q1), (.long q2), (.long q3), (.long q4), (.long q5)] maxLocals)) t := fun t_ k_ => pre74 t_ (by
              refine XS.icmpYes X50.here hx rfl (pc0 := 173) (pc' := 181) rfl (hb hby at_173) rfl (feq c173_75).2 (by decide) (by decide) ?_
              show Steps p.tables e below (T50.setTop (mkF m 181 #[.val (.int p0), .val (.long q1), .second, .val (.long q2), .second, .val (.long q3), .second, .val (.long q4), .second, .val (.long q5), .second, .val (.int n), .val (.long w0), .second, .val (.long w5), .second, .val (.long w10), .second, .val (.long w15), .second, .val (.ref cw), .val (.long w0), .second, .val (.long p1), .second, .val (.long p2), .second, .val (.long p3), .second, .unset, .unset, .unset, .unset, .unset] [])) _
              refine XS.lload X50.here hx rfl (hb hby at_181) rfl ?_
              show Steps p.tables e below (T50.setTop (mkF m 183 #[.val (.int p0), .val (.long q1), .second, .val (.long q2), .second, .val (.long q3), .second, .val (.long q4), .second, .val (.long q5), .second, .val (.int n), .val (.long w0), .second, .val (.long w5), .second, .val (.long w10), .second, .val (.long w15), .second, .val (.ref cw), .val (.long w0), .second, .val (.long p1), .second, .val (.long p2), .second, .val (.long p3), .second, .unset, .unset, .unset, .unset, .unset] [(.long p3)])) _
              exact k_)
          exact ⟨p3, rfl, pre77⟩
  have hp3 : p3 = ((w0 + w5) + w10) + w15 := by rw [e_p3, e_p2, e_p1]
  have hlast : ((own_ps w0 w5 w10 w15).take cn).getLastD 0 = tt67 := by rw [hv67, hp3]; exact own_tail hc1 hc4 hv5.2 hv10.2 hv15.2
  obtain ⟨e1, e2, e3⟩ := own_sums r0 hv5.1 hv10.1 hv15.1
  obtain ⟨cq78, kq78, q78a, q78b, q78c⟩ := isOf hZ e50 f57
  obtain ⟨_, _, ⟨T78, L78, k78, n78⟩, -, X78, ⟨Lc78, hQ78, l78, y78, z78⟩, st78⟩ := X50.virtualBack hx (y := (⟨"com/example/trigonal/trigonal/CumulativeWeights", "total", "()J"⟩ : MethodName)) (z := (⟨"com/example/trigonal/trigonal/CumulativeWeights", "total", "()J"⟩ : MethodName)) hown (mvT hZ (hw _ (List.mem_of_getElem? (i := 25) rfl))) (mvT hZ (hw _ (List.mem_of_getElem? (i := 21) rfl))) (notFace_of_selects (args := #[]) (mvT hZ (hw _ (List.mem_of_getElem? (i := 23) rfl)))) (mvT hZ (hw _ (List.mem_of_getElem? (i := 23) rfl))) (mvT hZ (hw _ (List.mem_of_getElem? (i := 22) rfl))) (by decide) (backOf (W := 0) (rmT l Z a0 hw [] cw z50 sb G50 ((own_ps w0 w5 w10 w15).take cn) h50 n0 Z50 f58 f59 f60 hSc (by rw [hlen]; exact hc4)) hZ (hw _ (List.mem_of_getElem? (i := 24) rfl)) (hw _ (List.mem_of_getElem? (i := 3) rfl)) (by decide) (by decide)) q78a q78c (g := (mkF m 187 #[.val (.int p0), .val (.long q1), .second, .val (.long q2), .second, .val (.long q3), .second, .val (.long q4), .second, .val (.long q5), .second, .val (.int n), .val (.long w0), .second, .val (.long w5), .second, .val (.long w10), .second, .val (.long w15), .second, .val (.ref cw), .val (.long w0), .second, .val (.long p1), .second, .val (.long p2), .second, .val (.long p3), .second, .val (.long tt67), .second, .unset, .unset, .unset] [(.ref cw)])) rfl (by rw [hml]; rfl) (Steps.refl _) (argsL := []) (rest := []) (lenOf pd0_2 rfl) rfl (by show 2 * 0 + _ ≤ _; exact Nat.le_of_eq rfl) (hb hby at_187) (fun _ _ => ⟨rfl, e50, (by decide : 2 + 0 ≤ _), (by decide : 6 + 0 ≤ _)⟩)
  dsimp only [Pt.U, Pt.locs, Pt.cells, Pt.slots] at X78 l78 y78 z78 st78 hQ78
  subst l78 y78 z78
  obtain ⟨rfl, N78q, e78⟩ := hQ78
  have N78 := Fr.app N50 N78q
  have pre79 : ∀ t, Steps p.tables e below (T78.setTop (mkF m 202 #[.val (.int p0), .val (.long q1), .second, .val (.long q2), .second, .val (.long q3), .second, .val (.long q4), .second, .val (.long q5), .second, .val (.int n), .val (.long w0), .second, .val (.long w5), .second, .val (.long w10), .second, .val (.long w15), .second, .val (.ref cw), .val (.long w0), .second, .val (.long p1), .second, .val (.long p2), .second, .val (.long p3), .second, .val (.long tt67), .second, .unset, .unset, .unset] [(.int (lcmpW tt67 (0 : Int64)))])) t → Steps p.tables e below (s₁.setTop (entryFrame m #[(.int p0), (.long q1), (.long q2), (.long q3), (.long q4), (.long q5)] maxLocals)) t := fun t_ k_ => pre67 t_ (by
      refine XS.lstore X50.here hx rfl (hb hby at_183) rfl (l' := #[.val (.int p0), .val (.long q1), .second, .val (.long q2), .second, .val (.long q3), .second, .val (.long q4), .second, .val (.long q5), .second, .val (.int n), .val (.long w0), .second, .val (.long w5), .second, .val (.long w10), .second, .val (.long w15), .second, .val (.ref cw), .val (.long w0), .second, .val (.long p1), .second, .val (.long p2), .second, .val (.long p3), .second, .val (.long tt67), .second, .unset, .unset, .unset]) rfl ?_
      show Steps p.tables e below (T50.setTop (mkF m 185 #[.val (.int p0), .val (.long q1), .second, .val (.long q2), .second, .val (.long q3), .second, .val (.long q4), .second, .val (.long q5), .second, .val (.int n), .val (.long w0), .second, .val (.long w5), .second, .val (.long w10), .second, .val (.long w15), .second, .val (.ref cw), .val (.long w0), .second, .val (.long p1), .second, .val (.long p2), .second, .val (.long p3), .second, .val (.long tt67), .second, .unset, .unset, .unset] [])) _
      refine XS.aload X50.here hx rfl (hb hby at_185) rfl rfl ?_
      show Steps p.tables e below (T50.setTop (mkF m 187 #[.val (.int p0), .val (.long q1), .second, .val (.long q2), .second, .val (.long q3), .second, .val (.long q4), .second, .val (.long q5), .second, .val (.int n), .val (.long w0), .second, .val (.long w5), .second, .val (.long w10), .second, .val (.long w15), .second, .val (.ref cw), .val (.long w0), .second, .val (.long p1), .second, .val (.long p2), .second, .val (.long p3), .second, .val (.long tt67), .second, .unset, .unset, .unset] [(.ref cw)])) _
      refine st78.trans ?_
      show Steps p.tables e below (T78.setTop (mkF m 190 #[.val (.int p0), .val (.long q1), .second, .val (.long q2), .second, .val (.long q3), .second, .val (.long q4), .second, .val (.long q5), .second, .val (.int n), .val (.long w0), .second, .val (.long w5), .second, .val (.long w10), .second, .val (.long w15), .second, .val (.ref cw), .val (.long w0), .second, .val (.long p1), .second, .val (.long p2), .second, .val (.long p3), .second, .val (.long tt67), .second, .unset, .unset, .unset] [(.long (((own_ps w0 w5 w10 w15).take cn).getLastD 0))])) _
      refine XS.lload X78.here hx rfl (hb hby at_190) rfl ?_
      show Steps p.tables e below (T78.setTop (mkF m 192 #[.val (.int p0), .val (.long q1), .second, .val (.long q2), .second, .val (.long q3), .second, .val (.long q4), .second, .val (.long q5), .second, .val (.int n), .val (.long w0), .second, .val (.long w5), .second, .val (.long w10), .second, .val (.long w15), .second, .val (.ref cw), .val (.long w0), .second, .val (.long p1), .second, .val (.long p2), .second, .val (.long p3), .second, .val (.long tt67), .second, .unset, .unset, .unset] [(.long tt67), (.long (((own_ps w0 w5 w10 w15).take cn).getLastD 0))])) _
      refine XS.lcmp X78.here hx rfl (hb hby at_192) rfl ?_
      show Steps p.tables e below (T78.setTop (mkF m 193 #[.val (.int p0), .val (.long q1), .second, .val (.long q2), .second, .val (.long q3), .second, .val (.long q4), .second, .val (.long q5), .second, .val (.int n), .val (.long w0), .second, .val (.long w5), .second, .val (.long w10), .second, .val (.long w15), .second, .val (.ref cw), .val (.long w0), .second, .val (.long p1), .second, .val (.long p2), .second, .val (.long p3), .second, .val (.long tt67), .second, .unset, .unset, .unset] [(.int (lcmpW (((own_ps w0 w5 w10 w15).take cn).getLastD 0) tt67))])) _
      refine XS.ifYes X78.here hx rfl (pc0 := 193) (pc' := 198) rfl (hb hby at_193) rfl ((if0 _ _).trans (teq (own_lc hlast)).1) (by decide) (by decide) ?_
      show Steps p.tables e below (T78.setTop (mkF m 198 #[.val (.int p0), .val (.long q1), .second, .val (.long q2), .second, .val (.long q3), .second, .val (.long q4), .second, .val (.long q5), .second, .val (.int n), .val (.long w0), .second, .val (.long w5), .second, .val (.long w10), .second, .val (.long w15), .second, .val (.ref cw), .val (.long w0), .second, .val (.long p1), .second, .val (.long p2), .second, .val (.long p3), .second, .val (.long tt67), .second, .unset, .unset, .unset] [])) _
      refine XS.lload X78.here hx rfl (hb hby at_198) rfl ?_
      show Steps p.tables e below (T78.setTop (mkF m 200 #[.val (.int p0), .val (.long q1), .second, .val (.long q2), .second, .val (.long q3), .second, .val (.long q4), .second, .val (.long q5), .second, .val (.int n), .val (.long w0), .second, .val (.long w5), .second, .val (.long w10), .second, .val (.long w15), .second, .val (.ref cw), .val (.long w0), .second, .val (.long p1), .second, .val (.long p2), .second, .val (.long p3), .second, .val (.long tt67), .second, .unset, .unset, .unset] [(.long tt67)])) _
      refine XS.lconst X78.here hx rfl (hb hby at_200) ?_
      show Steps p.tables e below (T78.setTop (mkF m 201 #[.val (.int p0), .val (.long q1), .second, .val (.long q2), .second, .val (.long q3), .second, .val (.long q4), .second, .val (.long q5), .second, .val (.int n), .val (.long w0), .second, .val (.long w5), .second, .val (.long w10), .second, .val (.long w15), .second, .val (.ref cw), .val (.long w0), .second, .val (.long p1), .second, .val (.long p2), .second, .val (.long p3), .second, .val (.long tt67), .second, .unset, .unset, .unset] [(.long (0 : Int64)), (.long tt67)])) _
      refine XS.lcmp X78.here hx rfl (hb hby at_201) rfl ?_
      show Steps p.tables e below (T78.setTop (mkF m 202 #[.val (.int p0), .val (.long q1), .second, .val (.long q2), .second, .val (.long q3), .second, .val (.long q4), .second, .val (.long q5), .second, .val (.int n), .val (.long w0), .second, .val (.long w5), .second, .val (.long w10), .second, .val (.long w15), .second, .val (.ref cw), .val (.long w0), .second, .val (.long p1), .second, .val (.long p2), .second, .val (.long p3), .second, .val (.long tt67), .second, .unset, .unset, .unset] [(.int (lcmpW tt67 (0 : Int64)))])) _
      exact k_)
  by_cases c202_80 : (0 : Int32) < (lcmpW tt67 (0 : Int64))
  · have hpos : 0 < tt67.toInt := own_lcgt.mp c202_80
    have pre81 : ∀ t, Steps p.tables e below (T78.setTop (mkF m 218 #[.val (.int p0), .val (.long q1), .second, .val (.long q2), .second, .val (.long q3), .second, .val (.long q4), .second, .val (.long q5), .second, .val (.int n), .val (.long w0), .second, .val (.long w5), .second, .val (.long w10), .second, .val (.long w15), .second, .val (.ref cw), .val (.long w0), .second, .val (.long p1), .second, .val (.long p2), .second, .val (.long p3), .second, .val (.long tt67), .second, .val (.long ((q5 &&& (9223372036854775807 : Int64)) - ((q5 &&& (9223372036854775807 : Int64)) / tt67) * tt67)), .second, .unset] [])) t → Steps p.tables e below (s₁.setTop (entryFrame m #[(.int p0), (.long q1), (.long q2), (.long q3), (.long q4), (.long q5)] maxLocals)) t := fun t_ k_ => pre79 t_ (by
        refine XS.ifYes X78.here hx rfl (pc0 := 202) (pc' := 207) rfl (hb hby at_202) rfl ((if0 _ _).trans (tlt c202_80).2.2.1) (by decide) (by decide) ?_
        show Steps p.tables e below (T78.setTop (mkF m 207 #[.val (.int p0), .val (.long q1), .second, .val (.long q2), .second, .val (.long q3), .second, .val (.long q4), .second, .val (.long q5), .second, .val (.int n), .val (.long w0), .second, .val (.long w5), .second, .val (.long w10), .second, .val (.long w15), .second, .val (.ref cw), .val (.long w0), .second, .val (.long p1), .second, .val (.long p2), .second, .val (.long p3), .second, .val (.long tt67), .second, .unset, .unset, .unset] [])) _
        refine XS.lload X78.here hx rfl (hb hby at_207) rfl ?_
        show Steps p.tables e below (T78.setTop (mkF m 209 #[.val (.int p0), .val (.long q1), .second, .val (.long q2), .second, .val (.long q3), .second, .val (.long q4), .second, .val (.long q5), .second, .val (.int n), .val (.long w0), .second, .val (.long w5), .second, .val (.long w10), .second, .val (.long w15), .second, .val (.ref cw), .val (.long w0), .second, .val (.long p1), .second, .val (.long p2), .second, .val (.long p3), .second, .val (.long tt67), .second, .unset, .unset, .unset] [(.long q5)])) _
        refine X78.ldc2Long hx hown (mvT hZ (hw _ (List.mem_of_getElem? (i := 26) rfl))) (g := (mkF m 209 #[.val (.int p0), .val (.long q1), .second, .val (.long q2), .second, .val (.long q3), .second, .val (.long q4), .second, .val (.long q5), .second, .val (.int n), .val (.long w0), .second, .val (.long w5), .second, .val (.long w10), .second, .val (.long w15), .second, .val (.ref cw), .val (.long w0), .second, .val (.long p1), .second, .val (.long p2), .second, .val (.long p3), .second, .val (.long tt67), .second, .unset, .unset, .unset] [(.long q5)])) rfl (hb hby at_209) _ ?_
        show Steps p.tables e below (T78.setTop (mkF m 212 #[.val (.int p0), .val (.long q1), .second, .val (.long q2), .second, .val (.long q3), .second, .val (.long q4), .second, .val (.long q5), .second, .val (.int n), .val (.long w0), .second, .val (.long w5), .second, .val (.long w10), .second, .val (.long w15), .second, .val (.ref cw), .val (.long w0), .second, .val (.long p1), .second, .val (.long p2), .second, .val (.long p3), .second, .val (.long tt67), .second, .unset, .unset, .unset] [(.long (9223372036854775807 : Int64)), (.long q5)])) _
        refine XS.land X78.here hx rfl (hb hby at_212) rfl ?_
        show Steps p.tables e below (T78.setTop (mkF m 213 #[.val (.int p0), .val (.long q1), .second, .val (.long q2), .second, .val (.long q3), .second, .val (.long q4), .second, .val (.long q5), .second, .val (.int n), .val (.long w0), .second, .val (.long w5), .second, .val (.long w10), .second, .val (.long w15), .second, .val (.ref cw), .val (.long w0), .second, .val (.long p1), .second, .val (.long p2), .second, .val (.long p3), .second, .val (.long tt67), .second, .unset, .unset, .unset] [(.long (q5 &&& (9223372036854775807 : Int64)))])) _
        refine XS.lload X78.here hx rfl (hb hby at_213) rfl ?_
        show Steps p.tables e below (T78.setTop (mkF m 215 #[.val (.int p0), .val (.long q1), .second, .val (.long q2), .second, .val (.long q3), .second, .val (.long q4), .second, .val (.long q5), .second, .val (.int n), .val (.long w0), .second, .val (.long w5), .second, .val (.long w10), .second, .val (.long w15), .second, .val (.ref cw), .val (.long w0), .second, .val (.long p1), .second, .val (.long p2), .second, .val (.long p3), .second, .val (.long tt67), .second, .unset, .unset, .unset] [(.long tt67), (.long (q5 &&& (9223372036854775807 : Int64)))])) _
        refine XS.lrem X78.here hx rfl (hb hby at_215) rfl (own_nz (own_lcgt.mp c202_80)) ?_
        show Steps p.tables e below (T78.setTop (mkF m 216 #[.val (.int p0), .val (.long q1), .second, .val (.long q2), .second, .val (.long q3), .second, .val (.long q4), .second, .val (.long q5), .second, .val (.int n), .val (.long w0), .second, .val (.long w5), .second, .val (.long w10), .second, .val (.long w15), .second, .val (.ref cw), .val (.long w0), .second, .val (.long p1), .second, .val (.long p2), .second, .val (.long p3), .second, .val (.long tt67), .second, .unset, .unset, .unset] [(.long ((q5 &&& (9223372036854775807 : Int64)) - ((q5 &&& (9223372036854775807 : Int64)) / tt67) * tt67))])) _
        refine XS.lstore X78.here hx rfl (hb hby at_216) rfl (l' := #[.val (.int p0), .val (.long q1), .second, .val (.long q2), .second, .val (.long q3), .second, .val (.long q4), .second, .val (.long q5), .second, .val (.int n), .val (.long w0), .second, .val (.long w5), .second, .val (.long w10), .second, .val (.long w15), .second, .val (.ref cw), .val (.long w0), .second, .val (.long p1), .second, .val (.long p2), .second, .val (.long p3), .second, .val (.long tt67), .second, .val (.long ((q5 &&& (9223372036854775807 : Int64)) - ((q5 &&& (9223372036854775807 : Int64)) / tt67) * tt67)), .second, .unset]) rfl ?_
        show Steps p.tables e below (T78.setTop (mkF m 218 #[.val (.int p0), .val (.long q1), .second, .val (.long q2), .second, .val (.long q3), .second, .val (.long q4), .second, .val (.long q5), .second, .val (.int n), .val (.long w0), .second, .val (.long w5), .second, .val (.long w10), .second, .val (.long w15), .second, .val (.ref cw), .val (.long w0), .second, .val (.long p1), .second, .val (.long p2), .second, .val (.long p3), .second, .val (.long tt67), .second, .val (.long ((q5 &&& (9223372036854775807 : Int64)) - ((q5 &&& (9223372036854775807 : Int64)) / tt67) * tt67)), .second, .unset] [])) _
        exact k_)
    obtain ⟨un, e_un⟩ : ∃ z : Int64, z = ((q5 &&& (9223372036854775807 : Int64)) - ((q5 &&& (9223372036854775807 : Int64)) / tt67) * tt67) := ⟨_, rfl⟩
    have pre82 : ∀ t, Steps p.tables e below (T78.setTop (mkF m 218 #[.val (.int p0), .val (.long q1), .second, .val (.long q2), .second, .val (.long q3), .second, .val (.long q4), .second, .val (.long q5), .second, .val (.int n), .val (.long w0), .second, .val (.long w5), .second, .val (.long w10), .second, .val (.long w15), .second, .val (.ref cw), .val (.long w0), .second, .val (.long p1), .second, .val (.long p2), .second, .val (.long p3), .second, .val (.long tt67), .second, .val (.long un), .second, .unset] [])) t → Steps p.tables e below (s₁.setTop (entryFrame m #[(.int p0), (.long q1), (.long q2), (.long q3), (.long q4), (.long q5)] maxLocals)) t := by subst e_un; exact pre81
    have hun : 0 ≤ un.toInt ∧ un.toInt < tt67.toInt := by rw [e_un]; exact own_rem (own_maskM _) hpos
    obtain ⟨ex83, hv83, pre83⟩ : ∃ (ex83 : Int32), (own_X ex83 un.toInt w0.toInt p1.toInt p2.toInt) ∧ ∀ t, Steps p.tables e below (T78.setTop (mkF m 263 #[.val (.int p0), .val (.long q1), .second, .val (.long q2), .second, .val (.long q3), .second, .val (.long q4), .second, .val (.long q5), .second, .val (.int n), .val (.long w0), .second, .val (.long w5), .second, .val (.long w10), .second, .val (.long w15), .second, .val (.ref cw), .val (.long w0), .second, .val (.long p1), .second, .val (.long p2), .second, .val (.long p3), .second, .val (.long tt67), .second, .val (.long un), .second, .val (.int ex83)] [])) t → Steps p.tables e below (s₁.setTop (entryFrame m #[(.int p0), (.long q1), (.long q2), (.long q3), (.long q4), (.long q5)] maxLocals)) t := by
      have pre84 : ∀ t, Steps p.tables e below (T78.setTop (mkF m 223 #[.val (.int p0), .val (.long q1), .second, .val (.long q2), .second, .val (.long q3), .second, .val (.long q4), .second, .val (.long q5), .second, .val (.int n), .val (.long w0), .second, .val (.long w5), .second, .val (.long w10), .second, .val (.long w15), .second, .val (.ref cw), .val (.long w0), .second, .val (.long p1), .second, .val (.long p2), .second, .val (.long p3), .second, .val (.long tt67), .second, .val (.long un), .second, .unset] [(.int (lcmpW un w0))])) t → Steps p.tables e below (s₁.setTop (entryFrame m #[(.int p0), (.long q1), (.long q2), (.long q3), (.long q4), (.long q5)] maxLocals)) t := fun t_ k_ => pre82 t_ (by
          refine XS.lload X78.here hx rfl (hb hby at_218) rfl ?_
          show Steps p.tables e below (T78.setTop (mkF m 220 #[.val (.int p0), .val (.long q1), .second, .val (.long q2), .second, .val (.long q3), .second, .val (.long q4), .second, .val (.long q5), .second, .val (.int n), .val (.long w0), .second, .val (.long w5), .second, .val (.long w10), .second, .val (.long w15), .second, .val (.ref cw), .val (.long w0), .second, .val (.long p1), .second, .val (.long p2), .second, .val (.long p3), .second, .val (.long tt67), .second, .val (.long un), .second, .unset] [(.long un)])) _
          refine XS.lload X78.here hx rfl (hb hby at_220) rfl ?_
          show Steps p.tables e below (T78.setTop (mkF m 222 #[.val (.int p0), .val (.long q1), .second, .val (.long q2), .second, .val (.long q3), .second, .val (.long q4), .second, .val (.long q5), .second, .val (.int n), .val (.long w0), .second, .val (.long w5), .second, .val (.long w10), .second, .val (.long w15), .second, .val (.ref cw), .val (.long w0), .second, .val (.long p1), .second, .val (.long p2), .second, .val (.long p3), .second, .val (.long tt67), .second, .val (.long un), .second, .unset] [(.long w0), (.long un)])) _
          refine XS.lcmp X78.here hx rfl (hb hby at_222) rfl ?_
          show Steps p.tables e below (T78.setTop (mkF m 223 #[.val (.int p0), .val (.long q1), .second, .val (.long q2), .second, .val (.long q3), .second, .val (.long q4), .second, .val (.long q5), .second, .val (.int n), .val (.long w0), .second, .val (.long w5), .second, .val (.long w10), .second, .val (.long w15), .second, .val (.ref cw), .val (.long w0), .second, .val (.long p1), .second, .val (.long p2), .second, .val (.long p3), .second, .val (.long tt67), .second, .val (.long un), .second, .unset] [(.int (lcmpW un w0))])) _
          exact k_)
      by_cases c223_85 : (lcmpW un w0) < (0 : Int32)
      · have pre86 : ∀ t, Steps p.tables e below (T78.setTop (mkF m 263 #[.val (.int p0), .val (.long q1), .second, .val (.long q2), .second, .val (.long q3), .second, .val (.long q4), .second, .val (.long q5), .second, .val (.int n), .val (.long w0), .second, .val (.long w5), .second, .val (.long w10), .second, .val (.long w15), .second, .val (.ref cw), .val (.long w0), .second, .val (.long p1), .second, .val (.long p2), .second, .val (.long p3), .second, .val (.long tt67), .second, .val (.long un), .second, .val (.int (0 : Int32))] [])) t → Steps p.tables e below (s₁.setTop (entryFrame m #[(.int p0), (.long q1), (.long q2), (.long q3), (.long q4), (.long q5)] maxLocals)) t := fun t_ k_ => pre84 t_ (by
            refine XS.ifNo X78.here hx rfl (hb hby at_223) rfl ((if0 _ _).trans (tlt c223_85).2.1) ?_
            show Steps p.tables e below (T78.setTop (mkF m 226 #[.val (.int p0), .val (.long q1), .second, .val (.long q2), .second, .val (.long q3), .second, .val (.long q4), .second, .val (.long q5), .second, .val (.int n), .val (.long w0), .second, .val (.long w5), .second, .val (.long w10), .second, .val (.long w15), .second, .val (.ref cw), .val (.long w0), .second, .val (.long p1), .second, .val (.long p2), .second, .val (.long p3), .second, .val (.long tt67), .second, .val (.long un), .second, .unset] [])) _
            refine XS.iconst X78.here hx rfl (hb hby at_226) ?_
            show Steps p.tables e below (T78.setTop (mkF m 227 #[.val (.int p0), .val (.long q1), .second, .val (.long q2), .second, .val (.long q3), .second, .val (.long q4), .second, .val (.long q5), .second, .val (.int n), .val (.long w0), .second, .val (.long w5), .second, .val (.long w10), .second, .val (.long w15), .second, .val (.ref cw), .val (.long w0), .second, .val (.long p1), .second, .val (.long p2), .second, .val (.long p3), .second, .val (.long tt67), .second, .val (.long un), .second, .unset] [(.int (0 : Int32))])) _
            refine XS.istore X78.here hx rfl (hb hby at_227) rfl (l' := #[.val (.int p0), .val (.long q1), .second, .val (.long q2), .second, .val (.long q3), .second, .val (.long q4), .second, .val (.long q5), .second, .val (.int n), .val (.long w0), .second, .val (.long w5), .second, .val (.long w10), .second, .val (.long w15), .second, .val (.ref cw), .val (.long w0), .second, .val (.long p1), .second, .val (.long p2), .second, .val (.long p3), .second, .val (.long tt67), .second, .val (.long un), .second, .val (.int (0 : Int32))]) rfl ?_
            show Steps p.tables e below (T78.setTop (mkF m 229 #[.val (.int p0), .val (.long q1), .second, .val (.long q2), .second, .val (.long q3), .second, .val (.long q4), .second, .val (.long q5), .second, .val (.int n), .val (.long w0), .second, .val (.long w5), .second, .val (.long w10), .second, .val (.long w15), .second, .val (.ref cw), .val (.long w0), .second, .val (.long p1), .second, .val (.long p2), .second, .val (.long p3), .second, .val (.long tt67), .second, .val (.long un), .second, .val (.int (0 : Int32))] [])) _
            refine XS.goto X78.here hx rfl (pc0 := 229) (pc' := 263) rfl (hb hby at_229) (by decide) (by decide) ?_
            show Steps p.tables e below (T78.setTop (mkF m 263 #[.val (.int p0), .val (.long q1), .second, .val (.long q2), .second, .val (.long q3), .second, .val (.long q4), .second, .val (.long q5), .second, .val (.int n), .val (.long w0), .second, .val (.long w5), .second, .val (.long w10), .second, .val (.long w15), .second, .val (.ref cw), .val (.long w0), .second, .val (.long p1), .second, .val (.long p2), .second, .val (.long p3), .second, .val (.long tt67), .second, .val (.long un), .second, .val (.int (0 : Int32))] [])) _
            exact k_)
        exact ⟨(0 : Int32), Or.inl ⟨rfl, own_lclt.mp c223_85⟩, pre86⟩
      · have pre87 : ∀ t, Steps p.tables e below (T78.setTop (mkF m 237 #[.val (.int p0), .val (.long q1), .second, .val (.long q2), .second, .val (.long q3), .second, .val (.long q4), .second, .val (.long q5), .second, .val (.int n), .val (.long w0), .second, .val (.long w5), .second, .val (.long w10), .second, .val (.long w15), .second, .val (.ref cw), .val (.long w0), .second, .val (.long p1), .second, .val (.long p2), .second, .val (.long p3), .second, .val (.long tt67), .second, .val (.long un), .second, .unset] [(.int (lcmpW un p1))])) t → Steps p.tables e below (s₁.setTop (entryFrame m #[(.int p0), (.long q1), (.long q2), (.long q3), (.long q4), (.long q5)] maxLocals)) t := fun t_ k_ => pre84 t_ (by
            refine XS.ifYes X78.here hx rfl (pc0 := 223) (pc' := 232) rfl (hb hby at_223) rfl ((if0 _ _).trans (flt c223_85).2.1) (by decide) (by decide) ?_
            show Steps p.tables e below (T78.setTop (mkF m 232 #[.val (.int p0), .val (.long q1), .second, .val (.long q2), .second, .val (.long q3), .second, .val (.long q4), .second, .val (.long q5), .second, .val (.int n), .val (.long w0), .second, .val (.long w5), .second, .val (.long w10), .second, .val (.long w15), .second, .val (.ref cw), .val (.long w0), .second, .val (.long p1), .second, .val (.long p2), .second, .val (.long p3), .second, .val (.long tt67), .second, .val (.long un), .second, .unset] [])) _
            refine XS.lload X78.here hx rfl (hb hby at_232) rfl ?_
            show Steps p.tables e below (T78.setTop (mkF m 234 #[.val (.int p0), .val (.long q1), .second, .val (.long q2), .second, .val (.long q3), .second, .val (.long q4), .second, .val (.long q5), .second, .val (.int n), .val (.long w0), .second, .val (.long w5), .second, .val (.long w10), .second, .val (.long w15), .second, .val (.ref cw), .val (.long w0), .second, .val (.long p1), .second, .val (.long p2), .second, .val (.long p3), .second, .val (.long tt67), .second, .val (.long un), .second, .unset] [(.long un)])) _
            refine XS.lload X78.here hx rfl (hb hby at_234) rfl ?_
            show Steps p.tables e below (T78.setTop (mkF m 236 #[.val (.int p0), .val (.long q1), .second, .val (.long q2), .second, .val (.long q3), .second, .val (.long q4), .second, .val (.long q5), .second, .val (.int n), .val (.long w0), .second, .val (.long w5), .second, .val (.long w10), .second, .val (.long w15), .second, .val (.ref cw), .val (.long w0), .second, .val (.long p1), .second, .val (.long p2), .second, .val (.long p3), .second, .val (.long tt67), .second, .val (.long un), .second, .unset] [(.long p1), (.long un)])) _
            refine XS.lcmp X78.here hx rfl (hb hby at_236) rfl ?_
            show Steps p.tables e below (T78.setTop (mkF m 237 #[.val (.int p0), .val (.long q1), .second, .val (.long q2), .second, .val (.long q3), .second, .val (.long q4), .second, .val (.long q5), .second, .val (.int n), .val (.long w0), .second, .val (.long w5), .second, .val (.long w10), .second, .val (.long w15), .second, .val (.ref cw), .val (.long w0), .second, .val (.long p1), .second, .val (.long p2), .second, .val (.long p3), .second, .val (.long tt67), .second, .val (.long un), .second, .unset] [(.int (lcmpW un p1))])) _
            exact k_)
        by_cases c237_88 : (lcmpW un p1) < (0 : Int32)
        · have pre89 : ∀ t, Steps p.tables e below (T78.setTop (mkF m 263 #[.val (.int p0), .val (.long q1), .second, .val (.long q2), .second, .val (.long q3), .second, .val (.long q4), .second, .val (.long q5), .second, .val (.int n), .val (.long w0), .second, .val (.long w5), .second, .val (.long w10), .second, .val (.long w15), .second, .val (.ref cw), .val (.long w0), .second, .val (.long p1), .second, .val (.long p2), .second, .val (.long p3), .second, .val (.long tt67), .second, .val (.long un), .second, .val (.int (1 : Int32))] [])) t → Steps p.tables e below (s₁.setTop (entryFrame m #[(.int p0), (.long q1), (.long q2), (.long q3), (.long q4), (.long q5)] maxLocals)) t := fun t_ k_ => pre87 t_ (by
              refine XS.ifNo X78.here hx rfl (hb hby at_237) rfl ((if0 _ _).trans (tlt c237_88).2.1) ?_
              show Steps p.tables e below (T78.setTop (mkF m 240 #[.val (.int p0), .val (.long q1), .second, .val (.long q2), .second, .val (.long q3), .second, .val (.long q4), .second, .val (.long q5), .second, .val (.int n), .val (.long w0), .second, .val (.long w5), .second, .val (.long w10), .second, .val (.long w15), .second, .val (.ref cw), .val (.long w0), .second, .val (.long p1), .second, .val (.long p2), .second, .val (.long p3), .second, .val (.long tt67), .second, .val (.long un), .second, .unset] [])) _
              refine XS.iconst X78.here hx rfl (hb hby at_240) ?_
              show Steps p.tables e below (T78.setTop (mkF m 241 #[.val (.int p0), .val (.long q1), .second, .val (.long q2), .second, .val (.long q3), .second, .val (.long q4), .second, .val (.long q5), .second, .val (.int n), .val (.long w0), .second, .val (.long w5), .second, .val (.long w10), .second, .val (.long w15), .second, .val (.ref cw), .val (.long w0), .second, .val (.long p1), .second, .val (.long p2), .second, .val (.long p3), .second, .val (.long tt67), .second, .val (.long un), .second, .unset] [(.int (1 : Int32))])) _
              refine XS.istore X78.here hx rfl (hb hby at_241) rfl (l' := #[.val (.int p0), .val (.long q1), .second, .val (.long q2), .second, .val (.long q3), .second, .val (.long q4), .second, .val (.long q5), .second, .val (.int n), .val (.long w0), .second, .val (.long w5), .second, .val (.long w10), .second, .val (.long w15), .second, .val (.ref cw), .val (.long w0), .second, .val (.long p1), .second, .val (.long p2), .second, .val (.long p3), .second, .val (.long tt67), .second, .val (.long un), .second, .val (.int (1 : Int32))]) rfl ?_
              show Steps p.tables e below (T78.setTop (mkF m 243 #[.val (.int p0), .val (.long q1), .second, .val (.long q2), .second, .val (.long q3), .second, .val (.long q4), .second, .val (.long q5), .second, .val (.int n), .val (.long w0), .second, .val (.long w5), .second, .val (.long w10), .second, .val (.long w15), .second, .val (.ref cw), .val (.long w0), .second, .val (.long p1), .second, .val (.long p2), .second, .val (.long p3), .second, .val (.long tt67), .second, .val (.long un), .second, .val (.int (1 : Int32))] [])) _
              refine XS.goto X78.here hx rfl (pc0 := 243) (pc' := 263) rfl (hb hby at_243) (by decide) (by decide) ?_
              show Steps p.tables e below (T78.setTop (mkF m 263 #[.val (.int p0), .val (.long q1), .second, .val (.long q2), .second, .val (.long q3), .second, .val (.long q4), .second, .val (.long q5), .second, .val (.int n), .val (.long w0), .second, .val (.long w5), .second, .val (.long w10), .second, .val (.long w15), .second, .val (.ref cw), .val (.long w0), .second, .val (.long p1), .second, .val (.long p2), .second, .val (.long p3), .second, .val (.long tt67), .second, .val (.long un), .second, .val (.int (1 : Int32))] [])) _
              exact k_)
          exact ⟨(1 : Int32), Or.inr (Or.inl ⟨rfl, mt own_lclt.mpr c223_85, own_lclt.mp c237_88⟩), pre89⟩
        · have pre90 : ∀ t, Steps p.tables e below (T78.setTop (mkF m 251 #[.val (.int p0), .val (.long q1), .second, .val (.long q2), .second, .val (.long q3), .second, .val (.long q4), .second, .val (.long q5), .second, .val (.int n), .val (.long w0), .second, .val (.long w5), .second, .val (.long w10), .second, .val (.long w15), .second, .val (.ref cw), .val (.long w0), .second, .val (.long p1), .second, .val (.long p2), .second, .val (.long p3), .second, .val (.long tt67), .second, .val (.long un), .second, .unset] [(.int (lcmpW un p2))])) t → Steps p.tables e below (s₁.setTop (entryFrame m #[(.int p0), (.long q1), (.long q2), (.long q3), (.long q4), (.long q5)] maxLocals)) t := fun t_ k_ => pre87 t_ (by
              refine XS.ifYes X78.here hx rfl (pc0 := 237) (pc' := 246) rfl (hb hby at_237) rfl ((if0 _ _).trans (flt c237_88).2.1) (by decide) (by decide) ?_
              show Steps p.tables e below (T78.setTop (mkF m 246 #[.val (.int p0), .val (.long q1), .second, .val (.long q2), .second, .val (.long q3), .second, .val (.long q4), .second, .val (.long q5), .second, .val (.int n), .val (.long w0), .second, .val (.long w5), .second, .val (.long w10), .second, .val (.long w15), .second, .val (.ref cw), .val (.long w0), .second, .val (.long p1), .second, .val (.long p2), .second, .val (.long p3), .second, .val (.long tt67), .second, .val (.long un), .second, .unset] [])) _
              refine XS.lload X78.here hx rfl (hb hby at_246) rfl ?_
              show Steps p.tables e below (T78.setTop (mkF m 248 #[.val (.int p0), .val (.long q1), .second, .val (.long q2), .second, .val (.long q3), .second, .val (.long q4), .second, .val (.long q5), .second, .val (.int n), .val (.long w0), .second, .val (.long w5), .second, .val (.long w10), .second, .val (.long w15), .second, .val (.ref cw), .val (.long w0), .second, .val (.long p1), .second, .val (.long p2), .second, .val (.long p3), .second, .val (.long tt67), .second, .val (.long un), .second, .unset] [(.long un)])) _
              refine XS.lload X78.here hx rfl (hb hby at_248) rfl ?_
              show Steps p.tables e below (T78.setTop (mkF m 250 #[.val (.int p0), .val (.long q1), .second, .val (.long q2), .second, .val (.long q3), .second, .val (.long q4), .second, .val (.long q5), .second, .val (.int n), .val (.long w0), .second, .val (.long w5), .second, .val (.long w10), .second, .val (.long w15), .second, .val (.ref cw), .val (.long w0), .second, .val (.long p1), .second, .val (.long p2), .second, .val (.long p3), .second, .val (.long tt67), .second, .val (.long un), .second, .unset] [(.long p2), (.long un)])) _
              refine XS.lcmp X78.here hx rfl (hb hby at_250) rfl ?_
              show Steps p.tables e below (T78.setTop (mkF m 251 #[.val (.int p0), .val (.long q1), .second, .val (.long q2), .second, .val (.long q3), .second, .val (.long q4), .second, .val (.long q5), .second, .val (.int n), .val (.long w0), .second, .val (.long w5), .second, .val (.long w10), .second, .val (.long w15), .second, .val (.ref cw), .val (.long w0), .second, .val (.long p1), .second, .val (.long p2), .second, .val (.long p3), .second, .val (.long tt67), .second, .val (.long un), .second, .unset] [(.int (lcmpW un p2))])) _
              exact k_)
          by_cases c251_91 : (lcmpW un p2) < (0 : Int32)
          · have pre92 : ∀ t, Steps p.tables e below (T78.setTop (mkF m 263 #[.val (.int p0), .val (.long q1), .second, .val (.long q2), .second, .val (.long q3), .second, .val (.long q4), .second, .val (.long q5), .second, .val (.int n), .val (.long w0), .second, .val (.long w5), .second, .val (.long w10), .second, .val (.long w15), .second, .val (.ref cw), .val (.long w0), .second, .val (.long p1), .second, .val (.long p2), .second, .val (.long p3), .second, .val (.long tt67), .second, .val (.long un), .second, .val (.int (2 : Int32))] [])) t → Steps p.tables e below (s₁.setTop (entryFrame m #[(.int p0), (.long q1), (.long q2), (.long q3), (.long q4), (.long q5)] maxLocals)) t := fun t_ k_ => pre90 t_ (by
                refine XS.ifNo X78.here hx rfl (hb hby at_251) rfl ((if0 _ _).trans (tlt c251_91).2.1) ?_
                show Steps p.tables e below (T78.setTop (mkF m 254 #[.val (.int p0), .val (.long q1), .second, .val (.long q2), .second, .val (.long q3), .second, .val (.long q4), .second, .val (.long q5), .second, .val (.int n), .val (.long w0), .second, .val (.long w5), .second, .val (.long w10), .second, .val (.long w15), .second, .val (.ref cw), .val (.long w0), .second, .val (.long p1), .second, .val (.long p2), .second, .val (.long p3), .second, .val (.long tt67), .second, .val (.long un), .second, .unset] [])) _
                refine XS.iconst X78.here hx rfl (hb hby at_254) ?_
                show Steps p.tables e below (T78.setTop (mkF m 255 #[.val (.int p0), .val (.long q1), .second, .val (.long q2), .second, .val (.long q3), .second, .val (.long q4), .second, .val (.long q5), .second, .val (.int n), .val (.long w0), .second, .val (.long w5), .second, .val (.long w10), .second, .val (.long w15), .second, .val (.ref cw), .val (.long w0), .second, .val (.long p1), .second, .val (.long p2), .second, .val (.long p3), .second, .val (.long tt67), .second, .val (.long un), .second, .unset] [(.int (2 : Int32))])) _
                refine XS.istore X78.here hx rfl (hb hby at_255) rfl (l' := #[.val (.int p0), .val (.long q1), .second, .val (.long q2), .second, .val (.long q3), .second, .val (.long q4), .second, .val (.long q5), .second, .val (.int n), .val (.long w0), .second, .val (.long w5), .second, .val (.long w10), .second, .val (.long w15), .second, .val (.ref cw), .val (.long w0), .second, .val (.long p1), .second, .val (.long p2), .second, .val (.long p3), .second, .val (.long tt67), .second, .val (.long un), .second, .val (.int (2 : Int32))]) rfl ?_
                show Steps p.tables e below (T78.setTop (mkF m 257 #[.val (.int p0), .val (.long q1), .second, .val (.long q2), .second, .val (.long q3), .second, .val (.long q4), .second, .val (.long q5), .second, .val (.int n), .val (.long w0), .second, .val (.long w5), .second, .val (.long w10), .second, .val (.long w15), .second, .val (.ref cw), .val (.long w0), .second, .val (.long p1), .second, .val (.long p2), .second, .val (.long p3), .second, .val (.long tt67), .second, .val (.long un), .second, .val (.int (2 : Int32))] [])) _
                refine XS.goto X78.here hx rfl (pc0 := 257) (pc' := 263) rfl (hb hby at_257) (by decide) (by decide) ?_
                show Steps p.tables e below (T78.setTop (mkF m 263 #[.val (.int p0), .val (.long q1), .second, .val (.long q2), .second, .val (.long q3), .second, .val (.long q4), .second, .val (.long q5), .second, .val (.int n), .val (.long w0), .second, .val (.long w5), .second, .val (.long w10), .second, .val (.long w15), .second, .val (.ref cw), .val (.long w0), .second, .val (.long p1), .second, .val (.long p2), .second, .val (.long p3), .second, .val (.long tt67), .second, .val (.long un), .second, .val (.int (2 : Int32))] [])) _
                exact k_)
            exact ⟨(2 : Int32), Or.inr (Or.inr (Or.inl ⟨rfl, mt own_lclt.mpr c223_85, mt own_lclt.mpr c237_88, own_lclt.mp c251_91⟩)), pre92⟩
          · have pre93 : ∀ t, Steps p.tables e below (T78.setTop (mkF m 263 #[.val (.int p0), .val (.long q1), .second, .val (.long q2), .second, .val (.long q3), .second, .val (.long q4), .second, .val (.long q5), .second, .val (.int n), .val (.long w0), .second, .val (.long w5), .second, .val (.long w10), .second, .val (.long w15), .second, .val (.ref cw), .val (.long w0), .second, .val (.long p1), .second, .val (.long p2), .second, .val (.long p3), .second, .val (.long tt67), .second, .val (.long un), .second, .val (.int (3 : Int32))] [])) t → Steps p.tables e below (s₁.setTop (entryFrame m #[(.int p0), (.long q1), (.long q2), (.long q3), (.long q4), (.long q5)] maxLocals)) t := fun t_ k_ => pre90 t_ (by
                refine XS.ifYes X78.here hx rfl (pc0 := 251) (pc' := 260) rfl (hb hby at_251) rfl ((if0 _ _).trans (flt c251_91).2.1) (by decide) (by decide) ?_
                show Steps p.tables e below (T78.setTop (mkF m 260 #[.val (.int p0), .val (.long q1), .second, .val (.long q2), .second, .val (.long q3), .second, .val (.long q4), .second, .val (.long q5), .second, .val (.int n), .val (.long w0), .second, .val (.long w5), .second, .val (.long w10), .second, .val (.long w15), .second, .val (.ref cw), .val (.long w0), .second, .val (.long p1), .second, .val (.long p2), .second, .val (.long p3), .second, .val (.long tt67), .second, .val (.long un), .second, .unset] [])) _
                refine XS.iconst X78.here hx rfl (hb hby at_260) ?_
                show Steps p.tables e below (T78.setTop (mkF m 261 #[.val (.int p0), .val (.long q1), .second, .val (.long q2), .second, .val (.long q3), .second, .val (.long q4), .second, .val (.long q5), .second, .val (.int n), .val (.long w0), .second, .val (.long w5), .second, .val (.long w10), .second, .val (.long w15), .second, .val (.ref cw), .val (.long w0), .second, .val (.long p1), .second, .val (.long p2), .second, .val (.long p3), .second, .val (.long tt67), .second, .val (.long un), .second, .unset] [(.int (3 : Int32))])) _
                refine XS.istore X78.here hx rfl (hb hby at_261) rfl (l' := #[.val (.int p0), .val (.long q1), .second, .val (.long q2), .second, .val (.long q3), .second, .val (.long q4), .second, .val (.long q5), .second, .val (.int n), .val (.long w0), .second, .val (.long w5), .second, .val (.long w10), .second, .val (.long w15), .second, .val (.ref cw), .val (.long w0), .second, .val (.long p1), .second, .val (.long p2), .second, .val (.long p3), .second, .val (.long tt67), .second, .val (.long un), .second, .val (.int (3 : Int32))]) rfl ?_
                show Steps p.tables e below (T78.setTop (mkF m 263 #[.val (.int p0), .val (.long q1), .second, .val (.long q2), .second, .val (.long q3), .second, .val (.long q4), .second, .val (.long q5), .second, .val (.int n), .val (.long w0), .second, .val (.long w5), .second, .val (.long w10), .second, .val (.long w15), .second, .val (.ref cw), .val (.long w0), .second, .val (.long p1), .second, .val (.long p2), .second, .val (.long p3), .second, .val (.long tt67), .second, .val (.long un), .second, .val (.int (3 : Int32))] [])) _
                exact k_)
            exact ⟨(3 : Int32), Or.inr (Or.inr (Or.inr ⟨rfl, mt own_lclt.mpr c223_85, mt own_lclt.mpr c237_88, mt own_lclt.mpr c251_91⟩)), pre93⟩
    obtain ⟨cq94, kq94, q94a, q94b, q94c⟩ := isOf hZ e78 f57
    obtain ⟨_, _, ⟨T94, L94, k94, n94⟩, -, X94, ⟨Lc94, hQ94, l94, y94, z94⟩, st94⟩ := X78.virtualBack hx (y := (⟨"com/example/trigonal/trigonal/CumulativeWeights", "index", "(J)I"⟩ : MethodName)) (z := (⟨"com/example/trigonal/trigonal/CumulativeWeights", "index", "(J)I"⟩ : MethodName)) hown (mvT hZ (hw _ (List.mem_of_getElem? (i := 27) rfl))) (mvT hZ (hw _ (List.mem_of_getElem? (i := 28) rfl))) (notFace_of_selects (args := #[]) (mvT hZ (hw _ (List.mem_of_getElem? (i := 30) rfl)))) (mvT hZ (hw _ (List.mem_of_getElem? (i := 30) rfl))) (mvT hZ (hw _ (List.mem_of_getElem? (i := 29) rfl))) (by decide) (backOf (W := 0) (rmX l Z a0 hw [] cw un z50 sb G50 ((own_ps w0 w5 w10 w15).take cn) h50 n0 Z50 f58 f59 f60 hSc (by rw [hlen]; exact hc4) (by rw [hlen]; exact hc1) (own_mono r0 hv5.1 hv10.1 hv15.1 hc4) (by rw [← own_last _ (n := ((own_ps w0 w5 w10 w15).take cn).length - 1) (by rw [hlen]; omega), hlast]; exact hun.2)) hZ (hw _ (List.mem_of_getElem? (i := 31) rfl)) (hw _ (List.mem_of_getElem? (i := 3) rfl)) (by decide) (by decide)) q94a q94c (g := (mkF m 267 #[.val (.int p0), .val (.long q1), .second, .val (.long q2), .second, .val (.long q3), .second, .val (.long q4), .second, .val (.long q5), .second, .val (.int n), .val (.long w0), .second, .val (.long w5), .second, .val (.long w10), .second, .val (.long w15), .second, .val (.ref cw), .val (.long w0), .second, .val (.long p1), .second, .val (.long p2), .second, .val (.long p3), .second, .val (.long tt67), .second, .val (.long un), .second, .val (.int ex83)] [(.long un), (.ref cw)])) rfl (by rw [hml]; rfl) (Steps.refl _) (argsL := [(.long un)]) (rest := []) (lenOf pd0_3 rfl) rfl (by show 2 * 0 + _ ≤ _; exact Nat.le_of_eq rfl) (hb hby at_267) (fun _ _ => ⟨rfl, e78, (by decide : 2 + 0 ≤ _), (by decide : 6 + 0 ≤ _)⟩)
    dsimp only [Pt.U, Pt.locs, Pt.cells, Pt.slots] at X94 l94 y94 z94 st94 hQ94
    subst l94 y94 z94
    obtain ⟨N94q, e94, r94, k94, rfl, i1, i2, i3, i4⟩ := hQ94
    have N94 := Fr.app N78 N94q
    have pre95 : ∀ t, Steps p.tables e below (T94.setTop (mkF m 280 #[.val (.int p0), .val (.long q1), .second, .val (.long q2), .second, .val (.long q3), .second, .val (.long q4), .second, .val (.long q5), .second, .val (.int n), .val (.long w0), .second, .val (.long w5), .second, .val (.long w10), .second, .val (.long w15), .second, .val (.ref cw), .val (.long w0), .second, .val (.long p1), .second, .val (.long p2), .second, .val (.long p3), .second, .val (.long tt67), .second, .val (.long un), .second, .val (.int ex83)] [(.int (1 : Int32))])) t → Steps p.tables e below (s₁.setTop (entryFrame m #[(.int p0), (.long q1), (.long q2), (.long q3), (.long q4), (.long q5)] maxLocals)) t := fun t_ k_ => pre83 t_ (by
        refine XS.aload X78.here hx rfl (hb hby at_263) rfl rfl ?_
        show Steps p.tables e below (T78.setTop (mkF m 265 #[.val (.int p0), .val (.long q1), .second, .val (.long q2), .second, .val (.long q3), .second, .val (.long q4), .second, .val (.long q5), .second, .val (.int n), .val (.long w0), .second, .val (.long w5), .second, .val (.long w10), .second, .val (.long w15), .second, .val (.ref cw), .val (.long w0), .second, .val (.long p1), .second, .val (.long p2), .second, .val (.long p3), .second, .val (.long tt67), .second, .val (.long un), .second, .val (.int ex83)] [(.ref cw)])) _
        refine XS.lload X78.here hx rfl (hb hby at_265) rfl ?_
        show Steps p.tables e below (T78.setTop (mkF m 267 #[.val (.int p0), .val (.long q1), .second, .val (.long q2), .second, .val (.long q3), .second, .val (.long q4), .second, .val (.long q5), .second, .val (.int n), .val (.long w0), .second, .val (.long w5), .second, .val (.long w10), .second, .val (.long w15), .second, .val (.ref cw), .val (.long w0), .second, .val (.long p1), .second, .val (.long p2), .second, .val (.long p3), .second, .val (.long tt67), .second, .val (.long un), .second, .val (.int ex83)] [(.long un), (.ref cw)])) _
        refine st94.trans ?_
        show Steps p.tables e below (T94.setTop (mkF m 270 #[.val (.int p0), .val (.long q1), .second, .val (.long q2), .second, .val (.long q3), .second, .val (.long q4), .second, .val (.long q5), .second, .val (.int n), .val (.long w0), .second, .val (.long w5), .second, .val (.long w10), .second, .val (.long w15), .second, .val (.ref cw), .val (.long w0), .second, .val (.long p1), .second, .val (.long p2), .second, .val (.long p3), .second, .val (.long tt67), .second, .val (.long un), .second, .val (.int ex83)] [(.int r94)])) _
        refine XS.iload X94.here hx rfl (hb hby at_270) rfl ?_
        show Steps p.tables e below (T94.setTop (mkF m 272 #[.val (.int p0), .val (.long q1), .second, .val (.long q2), .second, .val (.long q3), .second, .val (.long q4), .second, .val (.long q5), .second, .val (.int n), .val (.long w0), .second, .val (.long w5), .second, .val (.long w10), .second, .val (.long w15), .second, .val (.ref cw), .val (.long w0), .second, .val (.long p1), .second, .val (.long p2), .second, .val (.long p3), .second, .val (.long tt67), .second, .val (.long un), .second, .val (.int ex83)] [(.int ex83), (.int r94)])) _
        refine XS.icmpNo X94.here hx rfl (hb hby at_272) rfl (teq (own_fin r0 hv5.1 hv10.1 hv15.1 hc4 i1 i2 i3 i4 (by rw [← e_p1, ← e_p2]; exact hv83))).2 ?_
        show Steps p.tables e below (T94.setTop (mkF m 275 #[.val (.int p0), .val (.long q1), .second, .val (.long q2), .second, .val (.long q3), .second, .val (.long q4), .second, .val (.long q5), .second, .val (.int n), .val (.long w0), .second, .val (.long w5), .second, .val (.long w10), .second, .val (.long w15), .second, .val (.ref cw), .val (.long w0), .second, .val (.long p1), .second, .val (.long p2), .second, .val (.long p3), .second, .val (.long tt67), .second, .val (.long un), .second, .val (.int ex83)] [])) _
        refine XS.iconst X94.here hx rfl (hb hby at_275) ?_
        show Steps p.tables e below (T94.setTop (mkF m 276 #[.val (.int p0), .val (.long q1), .second, .val (.long q2), .second, .val (.long q3), .second, .val (.long q4), .second, .val (.long q5), .second, .val (.int n), .val (.long w0), .second, .val (.long w5), .second, .val (.long w10), .second, .val (.long w15), .second, .val (.ref cw), .val (.long w0), .second, .val (.long p1), .second, .val (.long p2), .second, .val (.long p3), .second, .val (.long tt67), .second, .val (.long un), .second, .val (.int ex83)] [(.int (1 : Int32))])) _
        refine XS.goto X94.here hx rfl (pc0 := 276) (pc' := 280) rfl (hb hby at_276) (by decide) (by decide) ?_
        show Steps p.tables e below (T94.setTop (mkF m 280 #[.val (.int p0), .val (.long q1), .second, .val (.long q2), .second, .val (.long q3), .second, .val (.long q4), .second, .val (.long q5), .second, .val (.int n), .val (.long w0), .second, .val (.long w5), .second, .val (.long w10), .second, .val (.long w15), .second, .val (.ref cw), .val (.long w0), .second, .val (.long p1), .second, .val (.long p2), .second, .val (.long p3), .second, .val (.long tt67), .second, .val (.long un), .second, .val (.int ex83)] [(.int (1 : Int32))])) _
        exact k_)
    obtain ⟨fs, hr, hrun, hended, hW, hsame⟩ := X94.leave (v := some (.int (1 : Int32))) (fun h => by rw [Bd.returns] at h; cases h)
    refine ⟨_, _, pre95 _ ?_, hrun, hended, _, _, rfl, ?_, ⟨_, rfl⟩, hW, hsame.mono (by decide) (by decide)⟩
    · exact retN X94 hx (t := .boolean) Bd.returns (by simp) (hb hby at_280) hr
    · show Q0 Z p0 q1 q2 q3 q4 q5 h0 n0 _ T94.heap _
      rw [e94]
      exact ⟨rfl, N94⟩
  · have pre96 : ∀ t, Steps p.tables e below (T78.setTop (mkF m 206 #[.val (.int p0), .val (.long q1), .second, .val (.long q2), .second, .val (.long q3), .second, .val (.long q4), .second, .val (.long q5), .second, .val (.int n), .val (.long w0), .second, .val (.long w5), .second, .val (.long w10), .second, .val (.long w15), .second, .val (.ref cw), .val (.long w0), .second, .val (.long p1), .second, .val (.long p2), .second, .val (.long p3), .second, .val (.long tt67), .second, .unset, .unset, .unset] [(.int (1 : Int32))])) t → Steps p.tables e below (s₁.setTop (entryFrame m #[(.int p0), (.long q1), (.long q2), (.long q3), (.long q4), (.long q5)] maxLocals)) t := fun t_ k_ => pre79 t_ (by
        refine XS.ifNo X78.here hx rfl (hb hby at_202) rfl ((if0 _ _).trans (flt c202_80).2.2.1) ?_
        show Steps p.tables e below (T78.setTop (mkF m 205 #[.val (.int p0), .val (.long q1), .second, .val (.long q2), .second, .val (.long q3), .second, .val (.long q4), .second, .val (.long q5), .second, .val (.int n), .val (.long w0), .second, .val (.long w5), .second, .val (.long w10), .second, .val (.long w15), .second, .val (.ref cw), .val (.long w0), .second, .val (.long p1), .second, .val (.long p2), .second, .val (.long p3), .second, .val (.long tt67), .second, .unset, .unset, .unset] [])) _
        refine XS.iconst X78.here hx rfl (hb hby at_205) ?_
        show Steps p.tables e below (T78.setTop (mkF m 206 #[.val (.int p0), .val (.long q1), .second, .val (.long q2), .second, .val (.long q3), .second, .val (.long q4), .second, .val (.long q5), .second, .val (.int n), .val (.long w0), .second, .val (.long w5), .second, .val (.long w10), .second, .val (.long w15), .second, .val (.ref cw), .val (.long w0), .second, .val (.long p1), .second, .val (.long p2), .second, .val (.long p3), .second, .val (.long tt67), .second, .unset, .unset, .unset] [(.int (1 : Int32))])) _
        exact k_)
    obtain ⟨fs, hr, hrun, hended, hW, hsame⟩ := X78.leave (v := some (.int (1 : Int32))) (fun h => by rw [Bd.returns] at h; cases h)
    refine ⟨_, _, pre96 _ ?_, hrun, hended, _, _, rfl, ?_, ⟨_, rfl⟩, hW, hsame.mono (by decide) (by decide)⟩
    · exact retN X78 hx (t := .boolean) Bd.returns (by simp) (hb hby at_206) hr
    · show Q0 Z p0 q1 q2 q3 q4 q5 h0 n0 _ T78.heap _
      rw [e78]
      exact ⟨rfl, N78⟩
set_option maxRecDepth 65536 in
set_option maxHeartbeats 40000000 in
theorem comes_1 {Post : Tables → Env → Array Value → State → Outcome → State → Prop} (hpost : ∀ tb e args s v u, (limb_1_1.after args s (.returned v) u = true ∧ limb_1_2.after args s (.returned v) u = true ∧ True) → FrameEnd s (.returned v) u (Jvm.fieldLocs frame_1_writes args s ++ Jvm.arrayLocs frame_1_arrays args s ++ Jvm.staticLocs frame_1_statics s) 16 128 → Post tb e args s (.returned v) u) :
    ArmFor flags0 classFile x code maxLocals ret World_1 tables_1 room_1 Calls_1 rest_1 Pre_1 Post := by
  intro l hfl _ _ p e ha hc hk s m args below hf hA hF happ hP
  obtain ⟨hcalls, hrest, hpre⟩ := hP
  obtain ⟨-, -, -, hnamed, -, -, -, hat⟩ := (Spec.applies_iff hf).mp happ
  obtain ⟨hg, hn⟩ := and_e (Cond.before_iff.mp (show (Jvm.Cond.and given_1 narrow_1).before args s = true from hpre))
  obtain ⟨hcount, hg0⟩ := and_e hg
  obtain ⟨ha0, hg1⟩ := and_e hg0
  obtain ⟨ha1, hg2⟩ := and_e hg1
  obtain ⟨ha2, hg3⟩ := and_e hg2
  obtain ⟨ha3, hg4⟩ := and_e hg3
  obtain ⟨ha4, hg5⟩ := and_e hg4
  have ha5 := hg5
  obtain ⟨w0, w1, w2, w3, w4, w5, rfl⟩ : ∃ w0 w1 w2 w3 w4 w5 : Value, args = #[w0, w1, w2, w3, w4, w5] := by
    have hs : args.size = 6 := by simpa [Cond.value, given_1] using hcount
    obtain ⟨L⟩ := args
    match L, hs with
    | [w0, w1, w2, w3, w4, w5], _ => exact ⟨w0, w1, w2, w3, w4, w5, rfl⟩
  have hw := fun d (hd : d ∈ tables_1) => atoms_spec (ws := Jvm.Cond.code x code maxLocals ret :: tables_1) hat d (List.mem_cons_of_mem _ hd)
  have hfit : Fit s := fun {y c} hc i hi => by
    obtain ⟨ha, rfl⟩ := Array.getElem?_eq_some_iff.mp hc
    have q := List.all_eq_true.mp ((Array.all_eq_true_iff_forall_mem.mp hF) _ (Array.getElem_mem ha)) i (List.mem_range.mpr hi)
    simpa [Array.getElem?_eq_getElem hi] using q
  obtain ⟨i0, ei0⟩ := is_v ha0
  obtain rfl : w0 = (.int i0) := Option.some.inj ei0
  obtain ⟨i1, ei1⟩ := isL_v ha1
  obtain rfl : w1 = (.long i1) := Option.some.inj ei1
  obtain ⟨i2, ei2⟩ := isL_v ha2
  obtain rfl : w2 = (.long i2) := Option.some.inj ei2
  obtain ⟨i3, ei3⟩ := isL_v ha3
  obtain rfl : w3 = (.long i3) := Option.some.inj ei3
  obtain ⟨i4, ei4⟩ := isL_v ha4
  obtain rfl : w4 = (.long i4) := Option.some.inj ei4
  obtain ⟨i5, ei5⟩ := isL_v ha5
  obtain rfl : w5 = (.long i5) := Option.some.inj ei5
  obtain ⟨n, o, h1, h2, h3, _, L, rfl, ⟨rfl, N⟩, hq⟩ := rm0 l s _ hw tables_1 i0 i1 i2 i3 i4 i5  s.heap s.heap.size (Nat.le_refl _)  p e ha hc hk s m _ below hf ((Spec.applies_iff_loose hf).mp happ).1 ⟨rfl, State.Warmed39.refl s, rfl⟩ trivial
  refine ⟨n, _, h1, h2, h3, hpost _ _ _ _ _ _ ⟨Cond.after_iff.mpr rfl, Cond.after_iff.mpr (eq_i res_at (Term.int_eval (1)) rfl), trivial⟩ ⟨hq.1, hq.2.1, (hq.2.2.sift fun y hy => Or.inr (N y hy)).mono (by decide) (by decide)⟩⟩
theorem main_1_1 : Claimed_1_1 := comes_1 fun _ _ _ _ _ _ h hF => ⟨h.1, hF⟩
theorem main_1_2 : Claimed_1_2 := comes_1 fun _ _ _ _ _ _ h hF => ⟨h.2.1, hF⟩
end Jvm.Pilot.@@N@@
namespace Jvm.Pilot.@@N@@
open Jvm Jvm.ClassFile Sem Op Lib Jvm.Free Jvm.Stand Jvm.Pilot.@@N@@.Jvm.D
/-! MADE BY PROGRAM (witnessworld.py) out of the Statement's table words and the real class files: 11 classes; the members and pool entries that the words name. The judged class is class 1, her method 1. -/
namespace start1
open Jvm.ClassFile
def u (s : String) : CpInfo := .utf8 (stringToUtf16 s)
/-- a pool by its gaps: so many unusable entries, then the entry; so many at the end -/
def gap : Nat → List CpInfo → List CpInfo
  | 0, r => r
  | n + 1, r => .unusable :: gap n r
def poolList (es : List (Nat × CpInfo)) (last : Nat) : List CpInfo := es.foldr (fun e r => gap e.1 (e.2 :: r)) (gap last [])
def pool (es : List (Nat × CpInfo)) (last : Nat) : Array CpInfo := ⟨poolList es last⟩
def fileOf (pool : Array CpInfo) (this : Nat) (attrs : Array Attribute := #[]) (ms : Array MethodInfo := #[]) (fl : Nat := 33) (sup : Nat := 0) (ifs : Array Nat := #[]) (fds : Array FieldInfo := #[]) : ClassFile where
  minorVersion := 0
  majorVersion := 65
  constantPool := pool
  accessFlags := fl
  thisClass := this
  superClass := sup
  interfaces := ifs
  fields := fds
  methods := ms
  attributes := attrs
def plain (name : String) (sup : Option ClassId) : Class where
  name := name
  kind := .ordinary
  loader := none
  accessFlags := 33
  super := sup
  interfaces := #[]
  cf := none
  fields := #[]
  methods := #[]
  instanceTypes := #[]
  staticTypes := #[]
  resolved := #[]
  callSites := []
  init := .initialized
  statics := none
  mirror := none

def pool0 : Array CpInfo := pool [(5, u "<init>"), (0, u "()V"), (1, .class_ 10), (1, u "java/lang/Object")] 113

def k0c0 : Code := { maxStack := 0, maxLocals := 1, code := object_method_1_code, exceptionTable := #[], attributes := #[] }
def k0m0 : Method := { name := "<init>", desc := "()V", sig := { parameters := [], returnType := none }, accessFlags := 1, code := some k0c0 }
/-- java/lang/Object -/
def k0 : Class := { plain "java/lang/Object" none with
  accessFlags := 33
  interfaces := #[]
  cf := some (fileOf pool0 8 #[] #[{ accessFlags := 1, nameIndex := 5, descriptorIndex := 6, attributes := #[] }] 33 0 #[] #[])
  fields := #[]
  methods := #[k0m0]
  instanceTypes := #[]
  staticTypes := #[]
  resolved := Array.replicate 124 none
  statics := none }

def pool1 : Array CpInfo := pool [(2, .class_ 4), (1, u "java/lang/Object"), (0, u "<init>"), (0, u "()V"), (0, .long 1152921504606846975), (1, .class_ 10), (0, u "com/example/trigonal/trigonal/CumulativeWeights"), (0, .methodref 9 12), (0, .nameAndType 5 13), (0, u "(I)V"), (0, .methodref 9 15), (0, .nameAndType 16 17), (0, u "add"), (0, u "(J)V"), (0, .methodref 9 19), (0, .nameAndType 20 21), (0, u "total"), (0, u "()J"), (2, .long 9223372036854775807), (1, .methodref 9 27), (0, .nameAndType 28 29), (0, u "index"), (0, u "(J)I"), (0, .class_ 31), (0, u "com/example/trigonal/trigonal/CumulativeWeightsIndexPinLaw"), (2, u "law"), (0, u "(IJJJJJ)Z")] 3

def k1m0 : Method := { name := "<init>", desc := "()V", sig := { parameters := [], returnType := none }, accessFlags := 1, code := none }
def k1c1 : Code := { maxStack := 4, maxLocals := 34, code := code, exceptionTable := #[], attributes := #[] }
def k1m1 : Method := { name := "law", desc := "(IJJJJJ)Z", sig := { parameters := [.int, .long, .long, .long, .long, .long], returnType := some .boolean }, accessFlags := 9, code := some k1c1 }
/-- com/example/trigonal/trigonal/CumulativeWeightsIndexPinLaw -/
def k1 : Class := { plain "com/example/trigonal/trigonal/CumulativeWeightsIndexPinLaw" (some 0) with
  accessFlags := 49
  interfaces := #[]
  cf := some (fileOf pool1 30 #[] #[{ accessFlags := 1, nameIndex := 5, descriptorIndex := 6, attributes := #[] }, { accessFlags := 9, nameIndex := 34, descriptorIndex := 35, attributes := #[] }] 49 2 #[] #[])
  fields := #[]
  methods := #[k1m0, k1m1]
  instanceTypes := #[]
  staticTypes := #[]
  resolved := Array.replicate 39 none
  statics := none }

def pool2 : Array CpInfo := pool [(1, .methodref 2 3), (0, .class_ 4), (0, .nameAndType 5 6), (0, u "java/lang/Object"), (0, u "<init>"), (0, u "()V"), (0, .fieldref 8 9), (0, .class_ 10), (0, .nameAndType 11 12), (0, u "com/example/trigonal/trigonal/CumulativeWeights"), (0, u "size"), (0, u "I"), (0, .fieldref 8 14), (0, .nameAndType 15 16), (0, u "sums"), (0, u "[J"), (0, .methodref 8 18), (0, .nameAndType 19 20), (0, u "total"), (0, u "()J"), (8, u "index"), (0, u "(J)I"), (0, u "(I)V"), (2, u "add"), (0, u "(J)V")] 7

def k2c0 : Code := { maxStack := 2, maxLocals := 2, code := prog_8_method_1_code, exceptionTable := #[], attributes := #[] }
def k2m0 : Method := { name := "<init>", desc := "(I)V", sig := { parameters := [.int], returnType := none }, accessFlags := 0, code := some k2c0 }
def k2c1 : Code := { maxStack := 6, maxLocals := 3, code := prog_8_method_2_code, exceptionTable := #[], attributes := #[] }
def k2m1 : Method := { name := "add", desc := "(J)V", sig := { parameters := [.long], returnType := none }, accessFlags := 0, code := some k2c1 }
def k2c2 : Code := { maxStack := 3, maxLocals := 1, code := prog_8_method_4_code, exceptionTable := #[], attributes := #[] }
def k2m2 : Method := { name := "total", desc := "()J", sig := { parameters := [], returnType := some .long }, accessFlags := 0, code := some k2c2 }
def k2c3 : Code := { maxStack := 4, maxLocals := 6, code := prog_8_method_6_code, exceptionTable := #[], attributes := #[] }
def k2m3 : Method := { name := "index", desc := "(J)I", sig := { parameters := [.long], returnType := some .int }, accessFlags := 0, code := some k2c3 }
/-- com/example/trigonal/trigonal/CumulativeWeights -/
def k2 : Class := { plain "com/example/trigonal/trigonal/CumulativeWeights" (some 0) with
  accessFlags := 48
  interfaces := #[]
  cf := some (fileOf pool2 8 #[] #[{ accessFlags := 0, nameIndex := 5, descriptorIndex := 31, attributes := #[] }, { accessFlags := 0, nameIndex := 34, descriptorIndex := 35, attributes := #[] }, { accessFlags := 0, nameIndex := 19, descriptorIndex := 20, attributes := #[] }, { accessFlags := 0, nameIndex := 29, descriptorIndex := 30, attributes := #[] }] 48 2 #[] #[{ accessFlags := 18, nameIndex := 15, descriptorIndex := 16, attributes := #[] }, { accessFlags := 2, nameIndex := 11, descriptorIndex := 12, attributes := #[] }])
  fields := #[{ name := "sums", type := (.array .long), accessFlags := 18, slot := 0, constantValue := 0 }, { name := "size", type := .int, accessFlags := 2, slot := 1, constantValue := 0 }]
  methods := #[k2m0, k2m1, k2m2, k2m3]
  instanceTypes := #[(.array .long), .int]
  staticTypes := #[]
  resolved := Array.replicate 43 none
  statics := none }

def pool3 : Array CpInfo := pool [(1, u "java/lang/Cloneable"), (0, .class_ 1), (0, u "java/lang/Object"), (0, .class_ 3)] 3

/-- java/lang/Cloneable -/
def k3 : Class := { plain "java/lang/Cloneable" (some 0) with
  accessFlags := 1537
  interfaces := #[]
  cf := some (fileOf pool3 2 #[] #[] 1537 4 #[] #[])
  fields := #[]
  methods := #[]
  instanceTypes := #[]
  staticTypes := #[]
  resolved := Array.replicate 8 none
  statics := none }

def pool4 : Array CpInfo := pool [(1, u "java/io/Serializable"), (0, .class_ 1), (0, u "java/lang/Object"), (0, .class_ 3)] 3

/-- java/io/Serializable -/
def k4 : Class := { plain "java/io/Serializable" (some 0) with
  accessFlags := 1537
  interfaces := #[]
  cf := some (fileOf pool4 2 #[] #[] 1537 4 #[] #[])
  fields := #[]
  methods := #[]
  instanceTypes := #[]
  staticTypes := #[]
  resolved := Array.replicate 8 none
  statics := none }

/-- the primitive byte -/
def k5 : Class := { plain "byte" none with kind := .primitive 'B', accessFlags := 0x411 }
/-- [B -/
def k6 : Class := { plain "[B" (some 0) with kind := .array 5 .byte, interfaces := #[3, 4], accessFlags := 1041 }

/-- the primitive int -/
def k7 : Class := { plain "int" none with kind := .primitive 'I', accessFlags := 0x411 }
/-- [I -/
def k8 : Class := { plain "[I" (some 0) with kind := .array 7 .int, interfaces := #[3, 4], accessFlags := 1041 }

/-- the primitive long -/
def k9 : Class := { plain "long" none with kind := .primitive 'J', accessFlags := 0x411 }
/-- [J -/
def k10 : Class := { plain "[J" (some 0) with kind := .array 9 .long, interfaces := #[3, 4], accessFlags := 1041 }

def heap : Heap := #[]
def classes : Array Class := #[k0, k1, k2, k3, k4, k5, k6, k7, k8, k9, k10]
def interned : List (Array UInt16 × Addr) := []
def slotsUsed : Nat := 0
def theMethod : MethodId := ⟨1, 1⟩
def args0 : Array Value := #[.int 5, .long 3, .long 4, .long 5, .long 6, .long 7]
def aboutOver (below : List Frame) : State where
  vm := { classes := classes, interned := interned.toArray }
  heap := heap
  slotsUsed := slotsUsed
  threads := #[{ frames := .invoking theMethod args0 :: below }]
def below0 : List Frame := [.native { method := ⟨0, 0⟩, args := #[] }]
def about1 : State := aboutOver below0
def p0 : Program := .bare "" "" ""
def e0 : Env := launch0.env 0 0 0
theorem w_frames : about1.frames = Frame.invoking theMethod args0 :: below0 := rfl
set_option maxRecDepth 65536 in
theorem w_args : argsFit about1.vm theMethod args0 = true := by decide +kernel
set_option maxRecDepth 65536 in
theorem w_heap : heapFits about1 = true := by decide +kernel
set_option maxRecDepth 65536 in
theorem w_runnable : about1.curStatus? = some .runnable := by decide +kernel
set_option maxRecDepth 65536 in
theorem w_alone : about1.alone = true := by decide +kernel
set_option maxRecDepth 65536 in
theorem w_named : about1.methodNamed? x = some theMethod := by decide +kernel
set_option maxRecDepth 65536 in
theorem w_hears : about1.hears theMethod below0 = true := by decide +kernel
set_option maxRecDepth 65536 in
theorem w_ripe : about1.ripe theMethod args0 below0 = true := by decide +kernel
theorem w_running : about1.status = .running := rfl
set_option maxRecDepth 65536 in
theorem w_room : about1.hasRoom e0.platform room_1 = true :=
  launch0.hasRoom_least _ room_1 (by decide +kernel) (by decide +kernel) (by decide +kernel) (by decide +kernel) (by decide +kernel) (by decide +kernel)
theorem allAtoms_all (ts : List Jvm.Cond) (a : Array Jvm.Value) (st : Jvm.State) : (allAtoms ts).before a st = ts.all (fun c => c.before a st) := by
  induction ts with
  | nil => rfl
  | cons c t ih =>
    show (Jvm.Cond.and c (allAtoms t)).before a st = _
    rw [Jvm.Cond.before_and, ih, List.all_cons]
def words1 : List Jvm.Cond := Jvm.Cond.code x code maxLocals ret :: tables_1
/-- a 'code' word, met by the world's own term for the bytes: nothing is compared byte by byte -/
theorem code_word {y : MethodName} {bytes : ByteArray} {mx : Nat} {rt : Option FieldType} {a : Array Value} {s : State} {m : MethodId} {meth : Method} {c : Code} (h1 : s.methodNamed? y = some m) (h2 : s.vm.method? m = some meth) (h3 : meth.code = some c) (h4 : c.code = bytes)
    (h5 : (c.maxLocals == mx && c.exceptionTable.isEmpty && decide (c.maxStack ≤ mostOperands) && decide (meth.sig.returnType = rt) && !meth.locks && decide (parseMethodDescriptor y.desc = some meth.sig)) = true) : (Jvm.Cond.code y bytes mx rt).before a s = true := by
  simp only [Bool.and_eq_true, beq_iff_eq, Bool.not_eq_true', decide_eq_true_eq] at h5
  obtain ⟨⟨⟨⟨⟨g1, g2⟩, g3⟩, g4⟩, g5⟩, g6⟩ := h5
  simp [Cond.before, Cond.holds, Cond.value, h1, h2, h3, h4, g1, g2, g3, g4, g5, g6]
def isCode : Jvm.Cond → Bool
  | .code _ _ _ _ => true
  | _ => false
theorem all_split {L : List Jvm.Cond} {P : Jvm.Cond → Bool} (h1 : L.all (fun c => isCode c || P c) = true) (h2 : ∀ c ∈ L.filter isCode, P c = true) : L.all P = true := by
  refine List.all_eq_true.mpr fun c hc => ?_
  have h := List.all_eq_true.mp h1 c hc
  rcases Bool.eq_false_or_eq_true (isCode c) with hi | hi
  · exact h2 c (List.mem_filter.mpr ⟨hc, hi⟩)
  · simpa [hi] using h
set_option maxRecDepth 65536 in
theorem w_c0 : (Jvm.Cond.code x code maxLocals ret).before args0 about1 = true := code_word (m := ⟨1, 1⟩) (meth := k1m1) (c := k1c1) (by decide +kernel) rfl rfl rfl (by decide +kernel)
set_option maxRecDepth 65536 in
theorem w_c1 : (Jvm.Cond.code ({ cls := "com/example/trigonal/trigonal/CumulativeWeights", name := "<init>", desc := "(I)V" } : Jvm.MethodName) prog_8_method_1_code (2 : Nat) (Option.none : Option Jvm.ClassFile.FieldType)).before args0 about1 = true := code_word (m := ⟨2, 0⟩) (meth := k2m0) (c := k2c0) (by decide +kernel) rfl rfl rfl (by decide +kernel)
set_option maxRecDepth 65536 in
theorem w_c2 : (Jvm.Cond.code ({ cls := "java/lang/Object", name := "<init>", desc := "()V" } : Jvm.MethodName) object_method_1_code (1 : Nat) (Option.none : Option Jvm.ClassFile.FieldType)).before args0 about1 = true := code_word (m := ⟨0, 0⟩) (meth := k0m0) (c := k0c0) (by decide +kernel) rfl rfl rfl (by decide +kernel)
set_option maxRecDepth 65536 in
theorem w_c3 : (Jvm.Cond.code ({ cls := "com/example/trigonal/trigonal/CumulativeWeights", name := "add", desc := "(J)V" } : Jvm.MethodName) prog_8_method_2_code (3 : Nat) (Option.none : Option Jvm.ClassFile.FieldType)).before args0 about1 = true := code_word (m := ⟨2, 1⟩) (meth := k2m1) (c := k2c1) (by decide +kernel) rfl rfl rfl (by decide +kernel)
set_option maxRecDepth 65536 in
theorem w_c4 : (Jvm.Cond.code ({ cls := "com/example/trigonal/trigonal/CumulativeWeights", name := "total", desc := "()J" } : Jvm.MethodName) prog_8_method_4_code (1 : Nat) (Option.some Jvm.ClassFile.FieldType.long)).before args0 about1 = true := code_word (m := ⟨2, 2⟩) (meth := k2m2) (c := k2c2) (by decide +kernel) rfl rfl rfl (by decide +kernel)
set_option maxRecDepth 65536 in
theorem w_c5 : (Jvm.Cond.code ({ cls := "com/example/trigonal/trigonal/CumulativeWeights", name := "index", desc := "(J)I" } : Jvm.MethodName) prog_8_method_6_code (6 : Nat) (Option.some Jvm.ClassFile.FieldType.int)).before args0 about1 = true := code_word (m := ⟨2, 3⟩) (meth := k2m3) (c := k2c3) (by decide +kernel) rfl rfl rfl (by decide +kernel)
def codes1 : List Jvm.Cond := [Jvm.Cond.code x code maxLocals ret, Jvm.Cond.code ({ cls := "com/example/trigonal/trigonal/CumulativeWeights", name := "<init>", desc := "(I)V" } : Jvm.MethodName) prog_8_method_1_code (2 : Nat) (Option.none : Option Jvm.ClassFile.FieldType), Jvm.Cond.code ({ cls := "java/lang/Object", name := "<init>", desc := "()V" } : Jvm.MethodName) object_method_1_code (1 : Nat) (Option.none : Option Jvm.ClassFile.FieldType), Jvm.Cond.code ({ cls := "com/example/trigonal/trigonal/CumulativeWeights", name := "add", desc := "(J)V" } : Jvm.MethodName) prog_8_method_2_code (3 : Nat) (Option.none : Option Jvm.ClassFile.FieldType), Jvm.Cond.code ({ cls := "com/example/trigonal/trigonal/CumulativeWeights", name := "total", desc := "()J" } : Jvm.MethodName) prog_8_method_4_code (1 : Nat) (Option.some Jvm.ClassFile.FieldType.long), Jvm.Cond.code ({ cls := "com/example/trigonal/trigonal/CumulativeWeights", name := "index", desc := "(J)I" } : Jvm.MethodName) prog_8_method_6_code (6 : Nat) (Option.some Jvm.ClassFile.FieldType.int)]
set_option maxRecDepth 65536 in
theorem codes_eq : words1.filter isCode = codes1 := rfl
theorem w_codes : ∀ c ∈ words1.filter isCode, c.before args0 about1 = true := by
  rw [codes_eq]
  intro c hc
  simp only [codes1, List.mem_cons, List.not_mem_nil, or_false] at hc
  rcases hc with rfl | rfl | rfl | rfl | rfl | rfl
  · exact w_c0
  · exact w_c1
  · exact w_c2
  · exact w_c3
  · exact w_c4
  · exact w_c5
set_option maxRecDepth 65536 in
theorem w_t1 : (words1.take 24).all (fun c => isCode c || c.before args0 about1) = true := by decide +kernel
set_option maxRecDepth 65536 in
theorem w_t2 : (words1.drop 24).all (fun c => isCode c || c.before args0 about1) = true := by decide +kernel
theorem w_tables : (allAtoms (Jvm.Cond.code x code maxLocals ret :: tables_1)).before args0 about1 = true := by
  rw [allAtoms_all]
  show words1.all (fun c => c.before args0 about1) = true
  refine all_split ?_ w_codes
  rw [← List.take_append_drop 24 words1, List.all_append, w_t1, w_t2]
  rfl
set_option maxRecDepth 65536 in
theorem w_case : (Jvm.Cond.and given_1 narrow_1).before args0 about1 = true := by decide +kernel
theorem w_applies : (headSpec (Jvm.Cond.code x code maxLocals ret :: tables_1) room_1).applies x e0.platform about1 = true :=
  (Spec.applies_iff w_frames).mpr ⟨w_running, w_runnable, w_alone, w_named, w_hears, w_ripe, w_room, w_tables⟩
theorem atStart : AtStart classFile x code maxLocals ret World_1 tables_1 room_1 Calls_1 rest_1 Pre_1 launch0 p0 e0 about1 theMethod args0 below0 :=
  ⟨lists_1, trivial, launch0.admits_env _ _ _, launch0.least_env, fairChoices_fair.cas, fairChoices_fair.clock, w_frames, w_args, w_heap, w_applies, trivial, trivial, w_case⟩
end start1
theorem witness_1 : WitnessClaimed_1 := ⟨start1.p0, start1.e0, start1.about1, start1.theMethod, start1.args0, start1.below0, start1.atStart⟩
end Jvm.Pilot.@@N@@
