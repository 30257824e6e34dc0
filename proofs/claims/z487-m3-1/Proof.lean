import JvmDerived
import JvmDerived.Pilot.@@N@@Statement
import JvmDerived.Pilot.@@N@@Code
set_option linter.unusedVariables false
set_option linter.unusedSimpArgs false

namespace Jvm.RoadKit
open Sem ClassFile Op Lib Jvm.Stand Jvm.Free Jvm.LawKit
section New
variable {p : Program} {l : Launch} {e : Env} {R : Room} {s : State} {m : MethodId} {args : Array Value} {below : List Frame} {meth : Method} {c : Code} {T : State} {locs : List Loc} {cells slots : Nat}
theorem retI (X : Stand p l e R s m args below meth c T locs cells slots) (hx : p.tables.exec = Jvm.exec) {pc : Nat} {Ls : Array Slot} {z : Int32} {rest : List Value} (hret : meth.sig.returnType = some .int) (hd : decode c.code pc = .ok (.ireturn, 1)) {fs : List Frame}
    (hl : ∀ (f : JFrame) (acts : List Action), f.method = m → f.locked = none → f.entered = [] → (doReturn e (T.setTop f) acts (some (.int z))).1 = T.setFrames fs) : Steps p.tables e below (T.setTop (mkF m pc Ls (.int z :: rest))) (T.setFrames fs) := by
  exact retOut X hx hret rfl (Or.inl ⟨rfl, Or.inl rfl, _, rfl⟩) hd hl
end New
end Jvm.RoadKit

namespace Jvm.Pilot.@@N@@
open Jvm Jvm.ClassFile Sem Op Lib Jvm.Free Jvm.Stand Jvm.LawKit Jvm.RoadKit Bundle Jvm.Pilot.@@N@@.Jvm.D

/-! arrays by a function of the place: what each place holds -/
def oUpd (f : Nat → Value) (k : Nat) (v : Value) : Nat → Value := fun i => if i = k then v else f i
def OArr (Z : State) (h : Heap) (a : Addr) (ty : FieldType) (n : Nat) (f : Nat → Value) : Prop := ∃ c : Cell, Arr Z h a c ty ∧ c.slots.size = n ∧ ∀ i, i < n → c.slots[i]? = some (f i)
section OArrFacts
variable {Z : State} {h h' : Heap} {a b : Addr} {ty : FieldType} {n : Nat} {f : Nat → Value} {sl : Nat} {v : Value} {ws : List Addr}
theorem oUpd_same (f : Nat → Value) (k : Nat) (v : Value) : oUpd f k v k = v := if_pos rfl
theorem oUpd_ne {f : Nat → Value} {k i : Nat} {v : Value} (h : i ≠ k) : oUpd f k v i = f i := if_neg h
theorem OArr.lt (F : OArr Z h a ty n f) : a < h.size := by obtain ⟨c, A, -⟩ := F; exact A.lt
theorem OArr.ext (F : OArr Z h a ty n f) (E : Ext h h') : OArr Z h' a ty n f := by obtain ⟨c, A, r⟩ := F; exact ⟨c, A.ext E, r⟩
theorem OArr.other (F : OArr Z h b ty n f) (W : Wr h h' a sl v) (q : b ≠ a) : OArr Z h' b ty n f := by obtain ⟨c, A, r⟩ := F; exact ⟨c, A.other W q, r⟩
theorem OArr.keep (F : OArr Z h a ty n f) (K : Keep h h' ws) (q : a ∉ ws) : OArr Z h' a ty n f := by obtain ⟨c, A, r⟩ := F; exact ⟨c, ⟨K.2.1 a c A.1 q, A.2⟩, r⟩
theorem OArr.congr {f' : Nat → Value} (F : OArr Z h a ty n f) (q : ∀ i, i < n → f i = f' i) : OArr Z h a ty n f' := by obtain ⟨c, A, S, H⟩ := F; exact ⟨c, A, S, fun i hi => by rw [← q i hi]; exact H i hi⟩
theorem OArr.set (F : OArr Z h a ty n f) {k : Nat} (hk : k < n) (W : Wr h h' a k v) : OArr Z h' a ty n (oUpd f k v) := by
  obtain ⟨c, A, S, H⟩ := F
  refine ⟨_, A.same W, by rw [sz_set]; exact S, fun i hi => ?_⟩
  by_cases q : i = k
  · subst q; rw [oUpd_same]; simp [Cell.setSlot, S, hi]
  · rw [oUpd_ne q]; show (c.slots.setIfInBounds k v)[i]? = _
    rw [Array.getElem?_setIfInBounds_ne (Ne.symm q)]; exact H i hi
theorem o_idx {j : Int32} {k : Nat} (h : j.toInt = (k : Int)) : ¬ j < 0 ∧ j.toNatClampNeg = k := by
  refine ⟨?_, ?_⟩
  · rw [Int32.lt_iff_toInt_lt]; show ¬ j.toInt < 0; omega
  · simp only [Int32.toNatClampNeg]; omega
theorem o_in {cl : Cell} {j : Int32} {k n : Nat} (S : cl.slots.size = n) (h : j.toInt = (k : Int)) (hk : k < n) : ¬ (j < 0 ∨ cl.slots.size ≤ j.toNatClampNeg) := by
  obtain ⟨q1, q2⟩ := o_idx h
  rw [S, q2]; intro z; rcases z with z | z
  · exact q1 z
  · omega
end OArrFacts
section OArrLaws
variable {p : Program} {l : Launch} {e : Env} {R : Room} {s : State} {m : MethodId} {args : Array Value} {below : List Frame} {meth : Method} {c : Code} {T : State} {locs : List Loc} {cells slots : Nat} {Z : State} {h : Heap} {a : Addr} {n : Nat} {f : Nat → Value} {a0 : Array Value}
theorem oStI (X : Stand p l e R s m args below meth c T locs cells slots) (hx : p.tables.exec = Jvm.exec) (hZ : Z.Warmed39 s.vm) (eT : T.heap = h) (A : OArr Z h a .int n f) {j x : Int32} {k : Nat} (hj : j.toInt = (k : Int)) (hk : k < n) {g : JFrame} (hg : g.method = m) {rest : List Value} (hs : g.stack = .int x :: .int j :: .ref a :: rest) (hd : decode c.code g.pc = .ok (.iastore, 1)) :
    ∃ T' h', Stand p l e R s m args below meth c T' (locs ++ [⟨a, k⟩]) cells slots ∧ T'.heap = h' ∧ Wr h h' a k (.int x) ∧ OArr Z h' a .int n (oUpd f k (.int x)) ∧ ∀ target, Steps p.tables e below (T'.setTop { g with pc := g.pc + 1, stack := rest }) target → Steps p.tables e below (T.setTop g) target := by
  obtain ⟨cl, Ar, S, H⟩ := A
  obtain ⟨T', h', X', e', W', st⟩ := stI X hx hZ eT Ar (o_in S hj hk) hg hs hd
  rw [(o_idx hj).2] at X' W'
  exact ⟨T', h', X', e', W', OArr.set ⟨cl, Ar, S, H⟩ hk W', st⟩
theorem oStJ (X : Stand p l e R s m args below meth c T locs cells slots) (hx : p.tables.exec = Jvm.exec) (hZ : Z.Warmed39 s.vm) (eT : T.heap = h) (A : OArr Z h a .long n f) {j : Int32} {x : Int64} {k : Nat} (hj : j.toInt = (k : Int)) (hk : k < n) {g : JFrame} (hg : g.method = m) {rest : List Value} (hs : g.stack = .long x :: .int j :: .ref a :: rest) (hd : decode c.code g.pc = .ok (.lastore, 1)) :
    ∃ T' h', Stand p l e R s m args below meth c T' (locs ++ [⟨a, k⟩]) cells slots ∧ T'.heap = h' ∧ Wr h h' a k (.long x) ∧ OArr Z h' a .long n (oUpd f k (.long x)) ∧ ∀ target, Steps p.tables e below (T'.setTop { g with pc := g.pc + 1, stack := rest }) target → Steps p.tables e below (T.setTop g) target := by
  obtain ⟨cl, Ar, S, H⟩ := A
  obtain ⟨T', h', X', e', W', st⟩ := stJ X hx hZ eT Ar (o_in S hj hk) hg hs hd
  rw [(o_idx hj).2] at X' W'
  exact ⟨T', h', X', e', W', OArr.set ⟨cl, Ar, S, H⟩ hk W', st⟩
theorem oStZ (X : Stand p l e R s m args below meth c T locs cells slots) (hx : p.tables.exec = Jvm.exec) (hZ : Z.Warmed39 s.vm) (eT : T.heap = h) (A : OArr Z h a .boolean n f) {j x : Int32} {k : Nat} (hj : j.toInt = (k : Int)) (hk : k < n) {g : JFrame} (hg : g.method = m) {rest : List Value} (hs : g.stack = .int x :: .int j :: .ref a :: rest) (hd : decode c.code g.pc = .ok (.bastore, 1)) :
    ∃ T' h', Stand p l e R s m args below meth c T' (locs ++ [⟨a, k⟩]) cells slots ∧ T'.heap = h' ∧ Wr h h' a k (.int (x &&& 1)) ∧ OArr Z h' a .boolean n (oUpd f k (.int (x &&& 1))) ∧ ∀ target, Steps p.tables e below (T'.setTop { g with pc := g.pc + 1, stack := rest }) target → Steps p.tables e below (T.setTop g) target := by
  obtain ⟨cl, Ar, S, H⟩ := A
  obtain ⟨T', h', X', e', W', st⟩ := stZ X hx hZ eT Ar (o_in S hj hk) hg hs hd
  rw [(o_idx hj).2] at X' W'
  exact ⟨T', h', X', e', W', OArr.set ⟨cl, Ar, S, H⟩ hk W', st⟩
theorem oLdI (X : Stand p l e R s m args below meth c T locs cells slots) (hx : p.tables.exec = Jvm.exec) (hZ : Z.Warmed39 s.vm) (eT : T.heap = h) (A : OArr Z h a .int n f) {j : Int32} {k : Nat} (hj : j.toInt = (k : Int)) (hk : k < n) {v : Int32} (hv : f k = .int v) {g : JFrame} (hg : g.method = m) {rest : List Value} (hs : g.stack = .int j :: .ref a :: rest) (hd : decode c.code g.pc = .ok (.iaload, 1)) :
    ∀ target, Steps p.tables e below (T.setTop { g with pc := g.pc + 1, stack := .int v :: rest }) target → Steps p.tables e below (T.setTop g) target := by
  obtain ⟨cl, Ar, S, H⟩ := A
  have ha := H k hk
  rw [hv] at ha
  exact X.iaload hx (j := j) (v := .int v) (by rw [eT]; exact Ar.1) (State.isArrayOf_alike hZ.alike Ar.2.1) Ar.2.2 (o_in S hj hk) (by rw [(o_idx hj).2]; exact ha) hg hs hd
theorem oLdJ (X : Stand p l e R s m args below meth c T locs cells slots) (hx : p.tables.exec = Jvm.exec) (hZ : Z.Warmed39 s.vm) (eT : T.heap = h) (A : OArr Z h a .long n f) {j : Int32} {k : Nat} (hj : j.toInt = (k : Int)) (hk : k < n) {v : Int64} (hv : f k = .long v) {g : JFrame} (hg : g.method = m) {rest : List Value} (hs : g.stack = .int j :: .ref a :: rest) (hd : decode c.code g.pc = .ok (.laload, 1)) :
    ∀ target, Steps p.tables e below (T.setTop { g with pc := g.pc + 1, stack := .long v :: rest }) target → Steps p.tables e below (T.setTop g) target := by
  obtain ⟨cl, Ar, S, H⟩ := A
  have ha := H k hk
  rw [hv] at ha
  exact X.laload hx (j := j) (v := .long v) (by rw [eT]; exact Ar.1) (State.isArrayOf_alike hZ.alike Ar.2.1) Ar.2.2 (o_in S hj hk) (by rw [(o_idx hj).2]; exact ha) hg hs hd
theorem oLdZ (X : Stand p l e R s m args below meth c T locs cells slots) (hx : p.tables.exec = Jvm.exec) (hZ : Z.Warmed39 s.vm) (eT : T.heap = h) (A : OArr Z h a .boolean n f) {j : Int32} {k : Nat} (hj : j.toInt = (k : Int)) (hk : k < n) {v : Int32} (hv : f k = .int v) {g : JFrame} (hg : g.method = m) {rest : List Value} (hs : g.stack = .int j :: .ref a :: rest) (hd : decode c.code g.pc = .ok (.baload, 1)) :
    ∀ target, Steps p.tables e below (T.setTop { g with pc := g.pc + 1, stack := .int v :: rest }) target → Steps p.tables e below (T.setTop g) target := by
  obtain ⟨cl, Ar, S, H⟩ := A
  have ha := H k hk
  rw [hv] at ha
  exact X.baloadBooleans hx (j := j) (v := .int v) (by rw [eT]; exact Ar.1) (State.isArrayOf_alike hZ.alike Ar.2.1) Ar.2.2 (o_in S hj hk) (by rw [(o_idx hj).2]; exact ha) hg hs hd
theorem oLdB (X : Stand p l e R s m args below meth c T locs cells slots) (hx : p.tables.exec = Jvm.exec) (hZ : Z.Warmed39 s.vm) (eT : T.heap = h) (A : OArr Z h a .byte n f) {j : Int32} {k : Nat} (hj : j.toInt = (k : Int)) (hk : k < n) {v : Int32} (hv : f k = .int v) {g : JFrame} (hg : g.method = m) {rest : List Value} (hs : g.stack = .int j :: .ref a :: rest) (hd : decode c.code g.pc = .ok (.baload, 1)) :
    ∀ target, Steps p.tables e below (T.setTop { g with pc := g.pc + 1, stack := .int v :: rest }) target → Steps p.tables e below (T.setTop g) target := by
  obtain ⟨cl, Ar, S, H⟩ := A
  have ha := H k hk
  rw [hv] at ha
  exact X.baloadBytes hx (j := j) (v := .int v) (by rw [eT]; exact Ar.1) (State.isArrayOf_alike hZ.alike Ar.2.1) Ar.2.2 (o_in S hj hk) (by rw [(o_idx hj).2]; exact ha) hg hs hd
theorem oLen {ty : FieldType} (X : Stand p l e R s m args below meth c T locs cells slots) (hx : p.tables.exec = Jvm.exec) (hZ : Z.Warmed39 s.vm) (eT : T.heap = h) (A : OArr Z h a ty n f) {N : Int32} (hN : N.toInt = (n : Int)) {g : JFrame} (hg : g.method = m) {rest : List Value} (hs : g.stack = .ref a :: rest) (hd : decode c.code g.pc = .ok (.arraylength, 1)) :
    ∀ target, Steps p.tables e below (T.setTop { g with pc := g.pc + 1, stack := .int N :: rest }) target → Steps p.tables e below (T.setTop g) target := by
  obtain ⟨cl, Ar, S, H⟩ := A
  have q := X.arraylength hx (by rw [eT]; exact Ar.1) (State.isArrayOf_alike hZ.alike Ar.2.1) hg hs hd
  have e1 : cl.slots.size.toInt32 = N := len_of (by rw [S]; exact (o_idx hN).2.symm) (o_idx hN).1
  rw [e1] at q
  exact q
theorem oNew (X : Stand p l e R s m args below meth c T locs cells slots) (hx : p.tables.exec = Jvm.exec) (hZ : Z.Warmed39 s.vm) {aty : ArrayType} (w : (Cond.arrayClass (newarray.typeOf aty)).before a0 Z = true) (eT : T.heap = h) {g : JFrame} (hg : g.method = m) (hd : decode c.code g.pc = .ok (.newarray aty, 2)) {z : Int32} {rest : List Value} (hs : g.stack = .int z :: rest)
    {k cap : Nat} (hn : z.toInt = (k : Int)) (hcap : k ≤ cap) (hb : cap * 8 ≤ 536870912) (hc : cells + 1 ≤ R.cells) (hl : slots + cap ≤ R.slots) :
    ∃ T' h', Stand p l e R s m args below meth c T' locs (cells + 1) (slots + cap) ∧ T'.heap = h' ∧ Ext h h' ∧ OArr Z h' h.size (newarray.typeOf aty) k (fun _ => defaultValue (newarray.typeOf aty)) ∧
      ∀ target, Steps p.tables e below (T'.setTop { g with pc := g.pc + 2, stack := .ref h.size :: rest }) target → Steps p.tables e below (T.setTop g) target := by
  obtain ⟨q1, q2⟩ := o_idx hn
  obtain ⟨T', h', cA, X', e', E', A', st⟩ := newP X hx hZ w eT hg hd hs q1 (cap := cap) (by rw [q2]; exact hcap) hb hc hl
  refine ⟨T', h', X', e', E', ⟨_, A', by rw [sz_new, q2], fun i hi => ?_⟩, st⟩
  simp [newA, q2, hi]
end OArrLaws

def own_l (v z : Int32) : List Int32 := if v = 0 then [] else [z]
theorem own_l1 {v z : Int32} (h : ¬ v = (0 : Int32)) : (own_l v z).length = 1 := by unfold own_l; rw [if_neg h]; rfl
theorem own_le (v z : Int32) : (own_l v z).length ≤ 1 := by unfold own_l; split <;> simp
theorem own_ln {v z : Int32} (h : v = (0 : Int32) ∨ v = (1 : Int32)) : v.toInt = ((own_l v z).length : Int) := by rcases h with rfl | rfl <;> rfl
def own_T (f : Nat → Value) (ts : List Int32) : Prop := ∀ i, i < ts.length → f i = .int (ts.getD i 0)
theorem own_inc {p : Int32} {n : Nat} (h : p.toInt = (n : Int)) (hn : n < 1000) : (p + (1 : Int32)).toInt = ((n + 1 : Nat) : Int) := by
  rw [Int32.toInt_add, h, show (1 : Int32).toInt = 1 from rfl, Int.bmod_def]; omega
theorem own_stay {f : Nat → Value} {ts : List Int32} {v z p : Int32} (h : v = (0 : Int32)) (H : p.toInt = (ts.length : Int) ∧ own_T f ts) : p.toInt = ((ts ++ own_l v z).length : Int) ∧ own_T f (ts ++ own_l v z) := by
  rw [own_l, if_pos h, List.append_nil]; exact H
theorem own_go {f : Nat → Value} {ts : List Int32} {v z p : Int32} (h : ¬ v = (0 : Int32)) (hb : ts.length ≤ 3) (H : p.toInt = (ts.length : Int) ∧ own_T f ts) : (p + (1 : Int32)).toInt = ((ts ++ own_l v z).length : Int) ∧ own_T (oUpd f ts.length (.int z)) (ts ++ own_l v z) := by
  rw [own_l, if_neg h]
  refine ⟨by rw [own_inc H.1 (by omega), List.length_append]; rfl, fun i hi => ?_⟩
  rw [List.length_append] at hi
  by_cases q : i = ts.length
  · subst q; rw [oUpd_same]; simp
  · have hi' : i < ts.length := by simp at hi; omega
    rw [oUpd_ne q, H.2 i hi']; simp [List.getElem?_append_left hi']
def own_add (d : Int64) (g : Nat → Int64) (k : Nat) : Nat → Int64 := fun i => if i = k then g i + d else g i
def own_off (d : Int64) : (Nat → Int64) → List Int32 → (Nat → Int64)
  | g, [] => g
  | g, t :: r => own_off d (own_add d g t.toInt.toNat) r
theorem own_sum2 {a b : Int32} {x y : Nat} (h1 : a.toInt = (x : Int)) (h2 : b.toInt = (y : Int)) (hx : x < 1000) (hy : y < 1000) : (a + b).toInt = ((x + y : Nat) : Int) := by
  rw [Int32.toInt_add, h1, h2, Int.bmod_def]; omega
theorem own_sum4 {a b c d : Int32} {x y z w : Nat} (h1 : a.toInt = (x : Int)) (h2 : b.toInt = (y : Int)) (h3 : c.toInt = (z : Int)) (h4 : d.toInt = (w : Int)) (hx : x ≤ 1) (hy : y ≤ 1) (hz : z ≤ 1) (hw : w ≤ 1) : (((a + b) + c) + d).toInt = ((x + y + z + w : Nat) : Int) :=
  own_sum2 (own_sum2 (own_sum2 h1 h2 (by omega) (by omega)) h3 (by omega) (by omega)) h4 (by omega) (by omega)
theorem own_lt {i z : Int32} {a b : Nat} (h1 : i.toInt = (a : Int)) (h2 : z.toInt = (b : Int)) (h : a < b) : i < z := by rw [Int32.lt_iff_toInt_lt]; omega
theorem own_nlt {i z : Int32} {a b : Nat} (h1 : i.toInt = (a : Int)) (h2 : z.toInt = (b : Int)) (h : ¬ a < b) : ¬ i < z := by rw [Int32.lt_iff_toInt_lt]; omega
def own_g (x y z w : Int64) : Nat → Int64
  | 0 => x
  | 1 => y
  | 2 => z
  | _ => w
theorem own_lc {x y : Int64} (h : x = y) : lcmpW x y = 0 := by subst h; rw [lcW]; exact (lc_eq x x).mpr rfl
def own_ts (v0 v1 v2 v3 : Int32) : List Int32 := (((([] : List Int32) ++ own_l v0 0) ++ own_l v1 1) ++ own_l v2 2) ++ own_l v3 3
theorem own_in (v0 v1 v2 v3 : Int32) : ∀ t ∈ own_ts v0 v1 v2 v3, ∃ k : Nat, k < 4 ∧ t.toInt = (k : Int) := by
  intro t ht
  have hl : ∀ v z : Int32, t ∈ own_l v z → t = z := fun v z h => by unfold own_l at h; split at h <;> simp at h; exact h
  simp only [own_ts, List.mem_append] at ht
  rcases ht with (((ht | ht) | ht) | ht) | ht
  · cases ht
  · exact ⟨0, by decide, by rw [hl _ _ ht]; rfl⟩
  · exact ⟨1, by decide, by rw [hl _ _ ht]; rfl⟩
  · exact ⟨2, by decide, by rw [hl _ _ ht]; rfl⟩
  · exact ⟨3, by decide, by rw [hl _ _ ht]; rfl⟩
theorem own_res (d x y z w : Int64) (v0 v1 v2 v3 : Int32) : own_off d (own_g x y z w) (own_ts v0 v1 v2 v3) 0 = (if v0 = 0 then x else x + d) ∧ own_off d (own_g x y z w) (own_ts v0 v1 v2 v3) 1 = (if v1 = 0 then y else y + d) ∧ own_off d (own_g x y z w) (own_ts v0 v1 v2 v3) 2 = (if v2 = 0 then z else z + d) ∧ own_off d (own_g x y z w) (own_ts v0 v1 v2 v3) 3 = (if v3 = 0 then w else w + d) := by
  unfold own_ts own_l
  split <;> split <;> split <;> split <;> exact ⟨rfl, rfl, rfl, rfl⟩
theorem own_ag (x y z w : Int64) : ∀ i, i < 4 → (oUpd (oUpd (oUpd (oUpd (fun _ => .long (0 : Int64)) 0 (.long x)) 1 (.long y)) 2 (.long z)) 3 (.long w)) i = (fun i => Value.long (own_g x y z w i)) i := fun i hi => by
  match i, hi with
  | 0, _ => rfl
  | 1, _ => rfl
  | 2, _ => rfl
  | 3, _ => rfl

theorem dA_0 : decode prog_113_method_1_code 0 = .ok (.aload_n 0, 1) := by decide +kernel
theorem dA_1 : decode prog_113_method_1_code 1 = .ok (.invokespecial 1, 3) := by decide +kernel
theorem dA_4 : decode prog_113_method_1_code 4 = .ok (.aload_n 0, 1) := by decide +kernel
theorem dA_5 : decode prog_113_method_1_code 5 = .ok (.aload_n 1, 1) := by decide +kernel
theorem dA_6 : decode prog_113_method_1_code 6 = .ok (.putfield 7, 3) := by decide +kernel
theorem dA_9 : decode prog_113_method_1_code 9 = .ok (.aload_n 0, 1) := by decide +kernel
theorem dA_10 : decode prog_113_method_1_code 10 = .ok (.lload_n 2, 1) := by decide +kernel
theorem dA_11 : decode prog_113_method_1_code 11 = .ok (.putfield 13, 3) := by decide +kernel
theorem dA_14 : decode prog_113_method_1_code 14 = .ok (.aload_n 0, 1) := by decide +kernel
theorem dA_15 : decode prog_113_method_1_code 15 = .ok (.aload_n 1, 1) := by decide +kernel
theorem dA_16 : decode prog_113_method_1_code 16 = .ok (.arraylength, 1) := by decide +kernel
theorem dA_17 : decode prog_113_method_1_code 17 = .ok (.newarray .long, 2) := by decide +kernel
theorem dA_19 : decode prog_113_method_1_code 19 = .ok (.putfield 17, 3) := by decide +kernel
theorem dA_22 : decode prog_113_method_1_code 22 = .ok (.return_, 1) := by decide +kernel
theorem pnA : plainName "com/example/shapewell/shapewell/validate/Sharing$Share" = true := by first | (simp [plainName, overriddenIn]; done) | decide +kernel
theorem efA (m : MethodId) (a1 : Addr) (a2 : Addr) (q3 : Int64) : entryFrame m #[(.ref a1), (.ref a2), (.long q3)] 4 = mkF m 0 #[.val (.ref a1), .val (.ref a2), .val (.long q3), .second] [] := by first | (simp [entryFrame, mkF, argsToLocals, Value.category]; done) | rfl
def QA (Z : State) (a1 a2 : Addr) (q3 : Int64) (kn : Nat) (G : Nat → Value) (zl : Int32) (h0 : Heap) (n0 : Nat) (v : Option Value) (h : Heap) (L : List Loc) : Prop := v = none ∧ Fr n0 L ∧ Keep h0 h [a1] ∧ Exa Z h a1 "com/example/shapewell/shapewell/validate/Sharing$Share" ∧ Fld Z h a1 "com/example/shapewell/shapewell/validate/Sharing$Share" "targets" "[I" (.ref a2) ∧ Fld Z h a1 "com/example/shapewell/shapewell/validate/Sharing$Share" "size" "J" (.long q3)
set_option maxRecDepth 65536 in
set_option maxHeartbeats 40000000 in
theorem rmA (l : Launch) (Z : State) (a0 : Array Value) (hw : ∀ d ∈ tables_1, d.before a0 Z = true) (ws : List Jvm.Cond) (a1 a2 : Addr) (q3 : Int64) (kn : Nat) (G : Nat → Value) (zl : Int32) (h0 : Heap) (n0 : Nat) (Z0 : n0 ≤ h0.size) (E1 : Exa Z h0 a1 "com/example/shapewell/shapewell/validate/Sharing$Share") (F1 : Fld Z h0 a1 "com/example/shapewell/shapewell/validate/Sharing$Share" "targets" "[I" .null) (F2 : Fld Z h0 a1 "com/example/shapewell/shapewell/validate/Sharing$Share" "size" "J" (.long (0 : Int64))) (F3 : Fld Z h0 a1 "com/example/shapewell/shapewell/validate/Sharing$Share" "given" "[J" .null) (A2 : OArr Z h0 a2 .int kn G) (ne12 : a1 ≠ a2) (g1 : n0 ≤ a1) (hzl : zl.toInt = (kn : Int)) (hk4 : kn ≤ 4) :
    MetFree l (⟨"com/example/shapewell/shapewell/validate/Sharing$Share", "<init>", "([IJ)V"⟩ : MethodName) (head1 (Jvm.Cond.code (⟨"com/example/shapewell/shapewell/validate/Sharing$Share", "<init>", "([IJ)V"⟩ : MethodName) prog_113_method_1_code 4 none :: ws) ({ frames := 1, cells := 1, slots := 4, locals := 12 } : Room)) (fun a U => a = #[(.ref a1), (.ref a2), (.long q3)] ∧ Z.Warmed39 U.vm ∧ U.heap = h0) (fun _ _ _ _ _ => True) (fun _ U o U' => ∃ v L, o = .returned v ∧ QA Z a1 a2 q3 kn G zl h0 n0 v U'.heap L ∧ FrameEnd U o U' L ({ frames := 1, cells := 1, slots := 4, locals := 12 } : Room).cells ({ frames := 1, cells := 1, slots := 4, locals := 12 } : Room).slots) := by
  refine MetFree.of_bodySF (plainFor_of_name pnA) hisR ?_
  intro p e s m args below meth c s₁ Bd hml0 hP hK
  obtain ⟨rfl, hZ, hh⟩ := hP
  have hx := Bd.exec
  have hby := Bd.bytes
  have hml : c.maxLocals = 4 := hml0
  have hown : s.vm.findClass "com/example/shapewell/shapewell/validate/Sharing$Share" = some m.cls := findClass_of_methodNamed Bd.named
  have hnm := (name_of_methodNamed Bd.named Bd.method).1
  have X0 : Stand p l e ({ frames := 1, cells := 1, slots := 4, locals := 12 } : Room) s m #[(.ref a1), (.ref a2), (.long q3)] below meth c s₁ [] 0 0 := Stand.of_body Bd
  have e0 : s₁.heap = h0 := by rw [← hh, Bd.state]; rfl
  have N0 := Fr.nil n0
  have pre0 : ∀ t, Steps p.tables e below (s₁.setTop (mkF m 0 #[.val (.ref a1), .val (.ref a2), .val (.long q3), .second] [])) t → Steps p.tables e below (s₁.setTop (entryFrame m #[(.ref a1), (.ref a2), (.long q3)] 4)) t := fun t k => castTop (efA m a1 a2 q3) k
  obtain ⟨T1, X1, e1, st1⟩ := initO X0 hx hZ hown (hw _ (List.mem_of_getElem? (i := 8) rfl)) (hw _ (List.mem_of_getElem? (i := 9) rfl)) (hw _ (List.mem_of_getElem? (i := 10) rfl)) e0 (g := (mkF m 1 #[.val (.ref a1), .val (.ref a2), .val (.long q3), .second] [(.ref a1)])) rfl (by rw [hml]; rfl) rfl (hb hby dA_1) (by decide) (W := 0) (by show 2 * 0 + _ ≤ _; exact Nat.le_of_eq rfl) (by decide)
  obtain ⟨T2, h2, X2, e2, W2, st2⟩ := putF X1 hx hZ hown (host := "") (Or.inl (hw _ (List.mem_of_getElem? (i := 11) rfl))) Via.refl e1 F1 E1 (Or.inr ⟨(hw _ (List.mem_of_getElem? (i := 12) rfl)), rfl, hnm⟩) (hw _ (List.mem_of_getElem? (i := 3) rfl)) (ty := (.array .int)) (by decide) rfl rfl (g := (mkF m 6 #[.val (.ref a1), .val (.ref a2), .val (.long q3), .second] [(.ref a2), (.ref a1)])) rfl rfl (hb hby dA_6)
  have Fw2 := F1.same W2
  have f3 := E1.wr W2
  have f4 := F2.other W2 (Or.inr (slot_ne (Or.inr (hw _ (List.mem_of_getElem? (i := 14) rfl))) (Or.inr (hw _ (List.mem_of_getElem? (i := 12) rfl))) (by decide) (t := .long) (t' := (.array .int)) (by decide) (by decide)))
  have f5 := F3.other W2 (Or.inr (slot_ne (Or.inr (hw _ (List.mem_of_getElem? (i := 16) rfl))) (Or.inr (hw _ (List.mem_of_getElem? (i := 12) rfl))) (by decide) (t := (.array .long)) (t' := (.array .int)) (by decide) (by decide)))
  have f6 := A2.other W2 (Ne.symm ne12)
  have N2 := Fr.snoc X2 N0 g1
  have K2 := (Keep.refl h0 [a1]).wr W2 (Or.inl (List.mem_of_getElem? (i := 0) rfl))
  have Z2 : n0 ≤ h2.size := Nat.le_trans Z0 (Keep.of_wr W2).1
  obtain ⟨T7, h7, X7, e7, W7, st7⟩ := putF X2 hx hZ hown (host := "") (Or.inl (hw _ (List.mem_of_getElem? (i := 13) rfl))) Via.refl e2 f4 f3 (Or.inr ⟨(hw _ (List.mem_of_getElem? (i := 14) rfl)), rfl, hnm⟩) (hw _ (List.mem_of_getElem? (i := 3) rfl)) (ty := .long) (by decide) rfl rfl (g := (mkF m 11 #[.val (.ref a1), .val (.ref a2), .val (.long q3), .second] [(.long q3), (.ref a1)])) rfl rfl (hb hby dA_11)
  have Fw7 := f4.same W7
  have f8 := f3.wr W7
  have f9 := Fw2.other W7 (Or.inr (slot_ne (Or.inr (hw _ (List.mem_of_getElem? (i := 12) rfl))) (Or.inr (hw _ (List.mem_of_getElem? (i := 14) rfl))) (by decide) (t := (.array .int)) (t' := .long) (by decide) (by decide)))
  have f10 := f5.other W7 (Or.inr (slot_ne (Or.inr (hw _ (List.mem_of_getElem? (i := 16) rfl))) (Or.inr (hw _ (List.mem_of_getElem? (i := 14) rfl))) (by decide) (t := (.array .long)) (t' := .long) (by decide) (by decide)))
  have f11 := f6.other W7 (Ne.symm ne12)
  have N7 := Fr.snoc X7 N2 g1
  have K7 := K2.wr W7 (Or.inl (List.mem_of_getElem? (i := 0) rfl))
  have Z7 : n0 ≤ h7.size := Nat.le_trans Z2 (Keep.of_wr W7).1
  obtain ⟨T12, h12, X12, e12, E12, A12, st12⟩ := oNew X7 hx hZ (hw _ (List.mem_of_getElem? (i := 1) rfl)) e7 (g := (mkF m 17 #[.val (.ref a1), .val (.ref a2), .val (.long q3), .second] [(.int zl), (.ref a1)])) rfl (hb hby dA_17) rfl (k := kn) (cap := 4) hzl (by omega) (by decide) (by decide) (by decide)
  obtain ⟨b9, g12⟩ : ∃ z, z = h7.size := ⟨_, rfl⟩
  rw [← g12] at A12 st12
  have ne13 : a1 ≠ b9 := Nat.ne_of_lt (Nat.lt_of_lt_of_le f8.lt (Nat.le_of_eq g12.symm))
  have ne14 : a2 ≠ b9 := Nat.ne_of_lt (Nat.lt_of_lt_of_le f11.lt (Nat.le_of_eq g12.symm))
  have gg12 : n0 ≤ b9 := Nat.le_trans Z7 (Nat.le_of_eq g12.symm)
  have sz12 : h0.size ≤ b9 := Nat.le_trans K7.1 (Nat.le_of_eq g12.symm)
  have f15 := f8.ext E12
  have f16 := f9.ext E12
  have f17 := Fw7.ext E12
  have f18 := f10.ext E12
  have f19 := f11.ext E12
  have Z12 : n0 ≤ h12.size := Nat.le_trans Z7 E12.1
  have K12 := K7.ext E12
  have B12 : OArr Z h12 b9 .long kn (fun _ => .long (0 : Int64)) := A12
  obtain ⟨T20, h20, X20, e20, W20, st20⟩ := putF X12 hx hZ hown (host := "") (Or.inl (hw _ (List.mem_of_getElem? (i := 15) rfl))) Via.refl e12 f18 f15 (Or.inr ⟨(hw _ (List.mem_of_getElem? (i := 16) rfl)), rfl, hnm⟩) (hw _ (List.mem_of_getElem? (i := 3) rfl)) (ty := (.array .long)) (by decide) rfl rfl (g := (mkF m 19 #[.val (.ref a1), .val (.ref a2), .val (.long q3), .second] [(.ref b9), (.ref a1)])) rfl rfl (hb hby dA_19)
  have Fw20 := f18.same W20
  have f21 := f15.wr W20
  have f22 := f16.other W20 (Or.inr (slot_ne (Or.inr (hw _ (List.mem_of_getElem? (i := 12) rfl))) (Or.inr (hw _ (List.mem_of_getElem? (i := 16) rfl))) (by decide) (t := (.array .int)) (t' := (.array .long)) (by decide) (by decide)))
  have f23 := f17.other W20 (Or.inr (slot_ne (Or.inr (hw _ (List.mem_of_getElem? (i := 14) rfl))) (Or.inr (hw _ (List.mem_of_getElem? (i := 16) rfl))) (by decide) (t := .long) (t' := (.array .long)) (by decide) (by decide)))
  have f24 := f19.other W20 (Ne.symm ne12)
  have f25 := B12.other W20 (Ne.symm ne13)
  have N20 := Fr.snoc X20 N7 g1
  have K20 := K12.wr W20 (Or.inl (List.mem_of_getElem? (i := 0) rfl))
  have Z20 : n0 ≤ h20.size := Nat.le_trans Z12 (Keep.of_wr W20).1
  have pre26 : ∀ t_, Steps p.tables e below (T20.setTop (mkF m 22 #[.val (.ref a1), .val (.ref a2), .val (.long q3), .second] [])) t_ → Steps p.tables e below (s₁.setTop (entryFrame m #[(.ref a1), (.ref a2), (.long q3)] 4)) t_ := fun t_ k_ => pre0 t_ (by
      refine XS.aloadN X0.here hx rfl (hb hby dA_0) rfl rfl ?_
      show Steps p.tables e below (s₁.setTop (mkF m 1 #[.val (.ref a1), .val (.ref a2), .val (.long q3), .second] [(.ref a1)])) _
      refine st1 _ ?_
      show Steps p.tables e below (T1.setTop (mkF m 4 #[.val (.ref a1), .val (.ref a2), .val (.long q3), .second] [])) _
      refine XS.aloadN X1.here hx rfl (hb hby dA_4) rfl rfl ?_
      show Steps p.tables e below (T1.setTop (mkF m 5 #[.val (.ref a1), .val (.ref a2), .val (.long q3), .second] [(.ref a1)])) _
      refine XS.aloadN X1.here hx rfl (hb hby dA_5) rfl rfl ?_
      show Steps p.tables e below (T1.setTop (mkF m 6 #[.val (.ref a1), .val (.ref a2), .val (.long q3), .second] [(.ref a2), (.ref a1)])) _
      refine st2 _ ?_
      show Steps p.tables e below (T2.setTop (mkF m 9 #[.val (.ref a1), .val (.ref a2), .val (.long q3), .second] [])) _
      refine XS.aloadN X2.here hx rfl (hb hby dA_9) rfl rfl ?_
      show Steps p.tables e below (T2.setTop (mkF m 10 #[.val (.ref a1), .val (.ref a2), .val (.long q3), .second] [(.ref a1)])) _
      refine XS.lloadN X2.here hx rfl (hb hby dA_10) rfl ?_
      show Steps p.tables e below (T2.setTop (mkF m 11 #[.val (.ref a1), .val (.ref a2), .val (.long q3), .second] [(.long q3), (.ref a1)])) _
      refine st7 _ ?_
      show Steps p.tables e below (T7.setTop (mkF m 14 #[.val (.ref a1), .val (.ref a2), .val (.long q3), .second] [])) _
      refine XS.aloadN X7.here hx rfl (hb hby dA_14) rfl rfl ?_
      show Steps p.tables e below (T7.setTop (mkF m 15 #[.val (.ref a1), .val (.ref a2), .val (.long q3), .second] [(.ref a1)])) _
      refine XS.aloadN X7.here hx rfl (hb hby dA_15) rfl rfl ?_
      show Steps p.tables e below (T7.setTop (mkF m 16 #[.val (.ref a1), .val (.ref a2), .val (.long q3), .second] [(.ref a2), (.ref a1)])) _
      refine oLen X7 hx hZ e7 f11 (N := zl) hzl (g := (mkF m 16 #[.val (.ref a1), .val (.ref a2), .val (.long q3), .second] [(.ref a2), (.ref a1)])) rfl rfl (hb hby dA_16) _ ?_
      show Steps p.tables e below (T7.setTop (mkF m 17 #[.val (.ref a1), .val (.ref a2), .val (.long q3), .second] [(.int zl), (.ref a1)])) _
      refine st12 _ ?_
      show Steps p.tables e below (T12.setTop (mkF m 19 #[.val (.ref a1), .val (.ref a2), .val (.long q3), .second] [(.ref b9), (.ref a1)])) _
      refine st20 _ ?_
      show Steps p.tables e below (T20.setTop (mkF m 22 #[.val (.ref a1), .val (.ref a2), .val (.long q3), .second] [])) _
      exact k_)
  obtain ⟨fs, hr, hrun, hended, hW, hsame⟩ := X20.leave (v := none) (fun _ => rfl)
  refine ⟨_, _, pre26 _ ?_, hrun, hended, _, _, rfl, ?_, ⟨_, rfl⟩, hW, hsame.mono (by decide) (by decide)⟩
  · exact X20.returnOut hx Bd.returns (hb hby dA_22) hr
  · show QA Z a1 a2 q3 kn G zl h0 n0 _ T20.heap _
    rw [e20]
    exact ⟨rfl, N20, K20, f21, f22, f23⟩
theorem dB_0 : decode prog_113_method_7_code 0 = .ok (.aload_n 0, 1) := by decide +kernel
theorem dB_1 : decode prog_113_method_7_code 1 = .ok (.getfield 7, 3) := by decide +kernel
theorem dB_4 : decode prog_113_method_7_code 4 = .ok (.astore_n 3, 1) := by decide +kernel
theorem dB_5 : decode prog_113_method_7_code 5 = .ok (.aload_n 3, 1) := by decide +kernel
theorem dB_6 : decode prog_113_method_7_code 6 = .ok (.arraylength, 1) := by decide +kernel
theorem dB_7 : decode prog_113_method_7_code 7 = .ok (.istore 4, 2) := by decide +kernel
theorem dB_9 : decode prog_113_method_7_code 9 = .ok (.iconst 0, 1) := by decide +kernel
theorem dB_10 : decode prog_113_method_7_code 10 = .ok (.istore 5, 2) := by decide +kernel
theorem dB_12 : decode prog_113_method_7_code 12 = .ok (.iload 5, 2) := by decide +kernel
theorem dB_14 : decode prog_113_method_7_code 14 = .ok (.iload 4, 2) := by decide +kernel
theorem dB_16 : decode prog_113_method_7_code 16 = .ok (.if_icmp .ge 29, 3) := by decide +kernel
theorem dB_19 : decode prog_113_method_7_code 19 = .ok (.aload_n 3, 1) := by decide +kernel
theorem dB_20 : decode prog_113_method_7_code 20 = .ok (.iload 5, 2) := by decide +kernel
theorem dB_22 : decode prog_113_method_7_code 22 = .ok (.iaload, 1) := by decide +kernel
theorem dB_23 : decode prog_113_method_7_code 23 = .ok (.istore 6, 2) := by decide +kernel
theorem dB_25 : decode prog_113_method_7_code 25 = .ok (.aload_n 1, 1) := by decide +kernel
theorem dB_26 : decode prog_113_method_7_code 26 = .ok (.iload 6, 2) := by decide +kernel
theorem dB_28 : decode prog_113_method_7_code 28 = .ok (.dup2, 1) := by decide +kernel
theorem dB_29 : decode prog_113_method_7_code 29 = .ok (.laload, 1) := by decide +kernel
theorem dB_30 : decode prog_113_method_7_code 30 = .ok (.iload_n 2, 1) := by decide +kernel
theorem dB_31 : decode prog_113_method_7_code 31 = .ok (.i2l, 1) := by decide +kernel
theorem dB_32 : decode prog_113_method_7_code 32 = .ok (.aload_n 0, 1) := by decide +kernel
theorem dB_33 : decode prog_113_method_7_code 33 = .ok (.getfield 13, 3) := by decide +kernel
theorem dB_36 : decode prog_113_method_7_code 36 = .ok (.lmul, 1) := by decide +kernel
theorem dB_37 : decode prog_113_method_7_code 37 = .ok (.ladd, 1) := by decide +kernel
theorem dB_38 : decode prog_113_method_7_code 38 = .ok (.lastore, 1) := by decide +kernel
theorem dB_39 : decode prog_113_method_7_code 39 = .ok (.iinc 5 1, 3) := by decide +kernel
theorem dB_42 : decode prog_113_method_7_code 42 = .ok (.goto (-30), 3) := by decide +kernel
theorem dB_45 : decode prog_113_method_7_code 45 = .ok (.return_, 1) := by decide +kernel
theorem pnB : plainName "com/example/shapewell/shapewell/validate/Sharing$Share" = true := by first | (simp [plainName, overriddenIn]; done) | decide +kernel
theorem efB (m : MethodId) (a1 : Addr) (a2 : Addr) (p3 : Int32) : entryFrame m #[(.ref a1), (.ref a2), (.int p3)] 7 = mkF m 0 #[.val (.ref a1), .val (.ref a2), .val (.int p3), .unset, .unset, .unset, .unset] [] := by first | (simp [entryFrame, mkF, argsToLocals, Value.category]; done) | rfl
def QB (Z : State) (a1 a2 : Addr) (p3 : Int32) (tg : Addr) (kn : Nat) (zl : Int32) (ts : List Int32) (G : Nat → Value) (g : Nat → Int64) (sz : Int64) (h0 : Heap) (n0 : Nat) (v : Option Value) (h : Heap) (L : List Loc) : Prop := v = none ∧ Fr n0 L ∧ Keep h0 h [a2] ∧ OArr Z h a2 .long 4 (fun j => .long (own_off (p3.toInt64 * sz) g ts j))
set_option maxRecDepth 65536 in
set_option maxHeartbeats 40000000 in
theorem rmB (l : Launch) (Z : State) (a0 : Array Value) (hw : ∀ d ∈ tables_1, d.before a0 Z = true) (ws : List Jvm.Cond) (a1 a2 : Addr) (p3 : Int32) (tg : Addr) (kn : Nat) (zl : Int32) (ts : List Int32) (G : Nat → Value) (g : Nat → Int64) (sz : Int64) (h0 : Heap) (n0 : Nat) (Z0 : n0 ≤ h0.size) (F1 : Fld Z h0 a1 "com/example/shapewell/shapewell/validate/Sharing$Share" "targets" "[I" (.ref tg)) (F2 : Fld Z h0 a1 "com/example/shapewell/shapewell/validate/Sharing$Share" "size" "J" (.long sz)) (At : OArr Z h0 tg .int kn G) (A2 : OArr Z h0 a2 .long 4 (fun j => .long (g j))) (hT : own_T G ts) (hlen : ts.length = kn) (hzl : zl.toInt = (kn : Int)) (hk4 : kn ≤ 4) (hin : ∀ t ∈ ts, ∃ k : Nat, k < 4 ∧ t.toInt = (k : Int)) (ne1 : a1 ≠ a2) (net : tg ≠ a2) (g2 : n0 ≤ a2) :
    MetFree l (⟨"com/example/shapewell/shapewell/validate/Sharing$Share", "offer", "([JI)V"⟩ : MethodName) (head1 (Jvm.Cond.code (⟨"com/example/shapewell/shapewell/validate/Sharing$Share", "offer", "([JI)V"⟩ : MethodName) prog_113_method_7_code 7 none :: ws) ({ frames := 0, cells := 0, slots := 0, locals := 0 } : Room)) (fun a U => a = #[(.ref a1), (.ref a2), (.int p3)] ∧ Z.Warmed39 U.vm ∧ U.heap = h0) (fun _ _ _ _ _ => True) (fun _ U o U' => ∃ v L, o = .returned v ∧ QB Z a1 a2 p3 tg kn zl ts G g sz h0 n0 v U'.heap L ∧ FrameEnd U o U' L ({ frames := 0, cells := 0, slots := 0, locals := 0 } : Room).cells ({ frames := 0, cells := 0, slots := 0, locals := 0 } : Room).slots) := by
  refine MetFree.of_bodySF (plainFor_of_name pnB) hisR ?_
  intro p e s m args below meth c s₁ Bd hml0 hP hK
  obtain ⟨rfl, hZ, hh⟩ := hP
  have hx := Bd.exec
  have hby := Bd.bytes
  have hml : c.maxLocals = 7 := hml0
  have hown : s.vm.findClass "com/example/shapewell/shapewell/validate/Sharing$Share" = some m.cls := findClass_of_methodNamed Bd.named
  have hnm := (name_of_methodNamed Bd.named Bd.method).1
  have X0 : Stand p l e ({ frames := 0, cells := 0, slots := 0, locals := 0 } : Room) s m #[(.ref a1), (.ref a2), (.int p3)] below meth c s₁ [] 0 0 := Stand.of_body Bd
  have e0 : s₁.heap = h0 := by rw [← hh, Bd.state]; rfl
  have N0 := Fr.nil n0
  have pre0 : ∀ t, Steps p.tables e below (s₁.setTop (mkF m 0 #[.val (.ref a1), .val (.ref a2), .val (.int p3), .unset, .unset, .unset, .unset] [])) t → Steps p.tables e below (s₁.setTop (entryFrame m #[(.ref a1), (.ref a2), (.int p3)] 7)) t := fun t k => castTop (efB m a1 a2 p3) k
  obtain ⟨T1, X1, e1, st1⟩ := getF X0 hx hZ hown (host := "") (Or.inl (hw _ (List.mem_of_getElem? (i := 11) rfl))) Via.refl e0 F1 (g := (mkF m 1 #[.val (.ref a1), .val (.ref a2), .val (.int p3), .unset, .unset, .unset, .unset] [(.ref a1)])) rfl rfl (hb hby dB_1)
  have pre2 : ∀ t_, Steps p.tables e below (T1.setTop (mkF m 12 #[.val (.ref a1), .val (.ref a2), .val (.int p3), .val (.ref tg), .val (.int zl), .val (.int (0 : Int32)), .unset] [])) t_ → Steps p.tables e below (s₁.setTop (entryFrame m #[(.ref a1), (.ref a2), (.int p3)] 7)) t_ := fun t_ k_ => pre0 t_ (by
      refine XS.aloadN X0.here hx rfl (hb hby dB_0) rfl rfl ?_
      show Steps p.tables e below (s₁.setTop (mkF m 1 #[.val (.ref a1), .val (.ref a2), .val (.int p3), .unset, .unset, .unset, .unset] [(.ref a1)])) _
      refine st1 _ ?_
      show Steps p.tables e below (T1.setTop (mkF m 4 #[.val (.ref a1), .val (.ref a2), .val (.int p3), .unset, .unset, .unset, .unset] [(.ref tg)])) _
      refine XS.astoreN X1.here hx rfl (hb hby dB_4) rfl rfl (l' := #[.val (.ref a1), .val (.ref a2), .val (.int p3), .val (.ref tg), .unset, .unset, .unset]) rfl ?_
      show Steps p.tables e below (T1.setTop (mkF m 5 #[.val (.ref a1), .val (.ref a2), .val (.int p3), .val (.ref tg), .unset, .unset, .unset] [])) _
      refine XS.aloadN X1.here hx rfl (hb hby dB_5) rfl rfl ?_
      show Steps p.tables e below (T1.setTop (mkF m 6 #[.val (.ref a1), .val (.ref a2), .val (.int p3), .val (.ref tg), .unset, .unset, .unset] [(.ref tg)])) _
      refine oLen X1 hx hZ e1 At (N := zl) hzl (g := (mkF m 6 #[.val (.ref a1), .val (.ref a2), .val (.int p3), .val (.ref tg), .unset, .unset, .unset] [(.ref tg)])) rfl rfl (hb hby dB_6) _ ?_
      show Steps p.tables e below (T1.setTop (mkF m 7 #[.val (.ref a1), .val (.ref a2), .val (.int p3), .val (.ref tg), .unset, .unset, .unset] [(.int zl)])) _
      refine XS.istore X1.here hx rfl (hb hby dB_7) rfl (l' := #[.val (.ref a1), .val (.ref a2), .val (.int p3), .val (.ref tg), .val (.int zl), .unset, .unset]) rfl ?_
      show Steps p.tables e below (T1.setTop (mkF m 9 #[.val (.ref a1), .val (.ref a2), .val (.int p3), .val (.ref tg), .val (.int zl), .unset, .unset] [])) _
      refine XS.iconst X1.here hx rfl (hb hby dB_9) ?_
      show Steps p.tables e below (T1.setTop (mkF m 10 #[.val (.ref a1), .val (.ref a2), .val (.int p3), .val (.ref tg), .val (.int zl), .unset, .unset] [(.int (0 : Int32))])) _
      refine XS.istore X1.here hx rfl (hb hby dB_10) rfl (l' := #[.val (.ref a1), .val (.ref a2), .val (.int p3), .val (.ref tg), .val (.int zl), .val (.int (0 : Int32)), .unset]) rfl ?_
      show Steps p.tables e below (T1.setTop (mkF m 12 #[.val (.ref a1), .val (.ref a2), .val (.int p3), .val (.ref tg), .val (.int zl), .val (.int (0 : Int32)), .unset] [])) _
      exact k_)
  have loop : ∀ (rest done : List Int32) (T0 : State) (hh : Heap) (locs : List Loc) (i : Int32) (s6 : Slot) (gc : Nat → Int64), ts = done ++ rest → i.toInt = (done.length : Int) → (s6 = .unset ∨ ∃ w, s6 = .val w ∧ w.category = 1) → Stand p l e ({ frames := 0, cells := 0, slots := 0, locals := 0 } : Room) s m #[(.ref a1), (.ref a2), (.int p3)] below meth c T0 locs 0 0 → T0.heap = hh → Fr n0 locs → n0 ≤ hh.size → Keep h0 hh [a2] → OArr Z hh a2 .long 4 (fun j => .long (gc j)) →
      ∃ (T' : State) (h' : Heap) (L' : List Loc) (i' : Int32) (s6' : Slot), Stand p l e ({ frames := 0, cells := 0, slots := 0, locals := 0 } : Room) s m #[(.ref a1), (.ref a2), (.int p3)] below meth c T' L' 0 0 ∧ T'.heap = h' ∧ Fr n0 L' ∧ Keep h0 h' [a2] ∧ OArr Z h' a2 .long 4 (fun j => .long (own_off (p3.toInt64 * sz) gc rest j)) ∧ ∀ t, Steps p.tables e below (T'.setTop (mkF m 45 #[.val (.ref a1), .val (.ref a2), .val (.int p3), .val (.ref tg), .val (.int zl), .val (.int i'), s6'] [])) t → Steps p.tables e below (T0.setTop (mkF m 12 #[.val (.ref a1), .val (.ref a2), .val (.int p3), .val (.ref tg), .val (.int zl), .val (.int i), s6] [])) t := by
    intro rest
    induction rest with
    | nil =>
      intro done T0 hh locs i s6 gc hts hi hs6 X0 e0 N0 Z0 KK AA
      have hd0 : kn = done.length := by rw [← hlen, hts, List.append_nil]
      have pre3 : ∀ t_, Steps p.tables e below (T0.setTop (mkF m 45 #[.val (.ref a1), .val (.ref a2), .val (.int p3), .val (.ref tg), .val (.int zl), .val (.int i), s6] [])) t_ → Steps p.tables e below (T0.setTop (mkF m 12 #[.val (.ref a1), .val (.ref a2), .val (.int p3), .val (.ref tg), .val (.int zl), .val (.int i), s6] [])) t_ := fun t_ k_ => (by
          refine XS.iload X0.here hx rfl (hb hby dB_12) rfl ?_
          show Steps p.tables e below (T0.setTop (mkF m 14 #[.val (.ref a1), .val (.ref a2), .val (.int p3), .val (.ref tg), .val (.int zl), .val (.int i), s6] [(.int i)])) _
          refine XS.iload X0.here hx rfl (hb hby dB_14) rfl ?_
          show Steps p.tables e below (T0.setTop (mkF m 16 #[.val (.ref a1), .val (.ref a2), .val (.int p3), .val (.ref tg), .val (.int zl), .val (.int i), s6] [(.int zl), (.int i)])) _
          refine XS.icmpYes X0.here hx rfl (pc0 := 16) (pc' := 45) rfl (hb hby dB_16) rfl (flt (own_nlt hi hzl (by omega))).2.1 (by decide) (by decide) ?_
          show Steps p.tables e below (T0.setTop (mkF m 45 #[.val (.ref a1), .val (.ref a2), .val (.int p3), .val (.ref tg), .val (.int zl), .val (.int i), s6] [])) _
          exact k_)
      exact ⟨T0, hh, locs, i, s6, X0, e0, N0, KK, AA, pre3⟩
    | cons t r ih =>
      intro done T0 hh locs i s6 gc hts hi hs6 X0 e0 N0 Z0 KK AA
      have hd0 : done.length < kn := by rw [← hlen, hts, List.length_append, List.length_cons]; omega
      have hG : G done.length = .int t := by
        rw [hT _ (by rw [hlen]; exact hd0), hts]; simp
      obtain ⟨tk, htk1, htk2⟩ := hin t (by rw [hts]; simp)
      have F1' := F1.keep KK (ninS ne1 nin0)
      have F2' := F2.keep KK (ninS ne1 nin0)
      have At' := At.keep KK (ninS net nin0)
      obtain ⟨T4, X4, e4, st4⟩ := getF X0 hx hZ hown (host := "") (Or.inl (hw _ (List.mem_of_getElem? (i := 13) rfl))) Via.refl e0 F2' (g := (mkF m 33 #[.val (.ref a1), .val (.ref a2), .val (.int p3), .val (.ref tg), .val (.int zl), .val (.int i), .val (.int t)] [(.ref a1), (.long (p3.toInt64)), (.long (gc tk)), (.int t), (.ref a2)])) rfl rfl (hb hby dB_33)
      obtain ⟨T5, h5, X5, e5, W5, A5, st5⟩ := oStJ X4 hx hZ e4 AA (k := tk) htk2 htk1 (g := (mkF m 38 #[.val (.ref a1), .val (.ref a2), .val (.int p3), .val (.ref tg), .val (.int zl), .val (.int i), .val (.int t)] [(.long ((gc tk) + ((p3.toInt64) * sz))), (.int t), (.ref a2)])) rfl rfl (hb hby dB_38)
      have f6 := F1'.other W5 (Or.inl ne1)
      have f7 := F2'.other W5 (Or.inl ne1)
      have f8 := At'.other W5 net
      have N5 := Fr.snoc X5 N0 g2
      have K5 := KK.wr W5 (Or.inl (List.mem_of_getElem? (i := 0) rfl))
      have Z5 : n0 ≤ h5.size := Nat.le_trans Z0 (Keep.of_wr W5).1
      have pre9 : ∀ t_, Steps p.tables e below (T5.setTop (mkF m 12 #[.val (.ref a1), .val (.ref a2), .val (.int p3), .val (.ref tg), .val (.int zl), .val (.int (i + (1 : Int32))), .val (.int t)] [])) t_ → Steps p.tables e below (T0.setTop (mkF m 12 #[.val (.ref a1), .val (.ref a2), .val (.int p3), .val (.ref tg), .val (.int zl), .val (.int i), s6] [])) t_ := fun t_ k_ => (by
          refine XS.iload X0.here hx rfl (hb hby dB_12) rfl ?_
          show Steps p.tables e below (T0.setTop (mkF m 14 #[.val (.ref a1), .val (.ref a2), .val (.int p3), .val (.ref tg), .val (.int zl), .val (.int i), s6] [(.int i)])) _
          refine XS.iload X0.here hx rfl (hb hby dB_14) rfl ?_
          show Steps p.tables e below (T0.setTop (mkF m 16 #[.val (.ref a1), .val (.ref a2), .val (.int p3), .val (.ref tg), .val (.int zl), .val (.int i), s6] [(.int zl), (.int i)])) _
          refine XS.icmpNo X0.here hx rfl (hb hby dB_16) rfl (tlt (own_lt hi hzl hd0)).2.1 ?_
          show Steps p.tables e below (T0.setTop (mkF m 19 #[.val (.ref a1), .val (.ref a2), .val (.int p3), .val (.ref tg), .val (.int zl), .val (.int i), s6] [])) _
          refine XS.aloadN X0.here hx rfl (hb hby dB_19) rfl rfl ?_
          show Steps p.tables e below (T0.setTop (mkF m 20 #[.val (.ref a1), .val (.ref a2), .val (.int p3), .val (.ref tg), .val (.int zl), .val (.int i), s6] [(.ref tg)])) _
          refine XS.iload X0.here hx rfl (hb hby dB_20) rfl ?_
          show Steps p.tables e below (T0.setTop (mkF m 22 #[.val (.ref a1), .val (.ref a2), .val (.int p3), .val (.ref tg), .val (.int zl), .val (.int i), s6] [(.int i), (.ref tg)])) _
          refine oLdI X0 hx hZ e0 At' (k := done.length) hi hd0 (v := t) hG (g := (mkF m 22 #[.val (.ref a1), .val (.ref a2), .val (.int p3), .val (.ref tg), .val (.int zl), .val (.int i), s6] [(.int i), (.ref tg)])) rfl rfl (hb hby dB_22) _ ?_
          show Steps p.tables e below (T0.setTop (mkF m 23 #[.val (.ref a1), .val (.ref a2), .val (.int p3), .val (.ref tg), .val (.int zl), .val (.int i), s6] [(.int t)])) _
          refine XS.istore X0.here hx rfl (hb hby dB_23) rfl (l' := #[.val (.ref a1), .val (.ref a2), .val (.int p3), .val (.ref tg), .val (.int zl), .val (.int i), .val (.int t)]) (XS.store1 (o := s6) rfl hs6 rfl) ?_
          show Steps p.tables e below (T0.setTop (mkF m 25 #[.val (.ref a1), .val (.ref a2), .val (.int p3), .val (.ref tg), .val (.int zl), .val (.int i), .val (.int t)] [])) _
          refine XS.aloadN X0.here hx rfl (hb hby dB_25) rfl rfl ?_
          show Steps p.tables e below (T0.setTop (mkF m 26 #[.val (.ref a1), .val (.ref a2), .val (.int p3), .val (.ref tg), .val (.int zl), .val (.int i), .val (.int t)] [(.ref a2)])) _
          refine XS.iload X0.here hx rfl (hb hby dB_26) rfl ?_
          show Steps p.tables e below (T0.setTop (mkF m 28 #[.val (.ref a1), .val (.ref a2), .val (.int p3), .val (.ref tg), .val (.int zl), .val (.int i), .val (.int t)] [(.int t), (.ref a2)])) _
          jvm_step X0.here [X0.here.top, hx, (hb hby dB_28), Value.category]
          show Steps p.tables e below (T0.setTop (mkF m 29 #[.val (.ref a1), .val (.ref a2), .val (.int p3), .val (.ref tg), .val (.int zl), .val (.int i), .val (.int t)] [(.int t), (.ref a2), (.int t), (.ref a2)])) _
          refine oLdJ X0 hx hZ e0 AA (k := tk) htk2 htk1 (v := (gc tk)) rfl (g := (mkF m 29 #[.val (.ref a1), .val (.ref a2), .val (.int p3), .val (.ref tg), .val (.int zl), .val (.int i), .val (.int t)] [(.int t), (.ref a2), (.int t), (.ref a2)])) rfl rfl (hb hby dB_29) _ ?_
          show Steps p.tables e below (T0.setTop (mkF m 30 #[.val (.ref a1), .val (.ref a2), .val (.int p3), .val (.ref tg), .val (.int zl), .val (.int i), .val (.int t)] [(.long (gc tk)), (.int t), (.ref a2)])) _
          refine XS.iloadN X0.here hx rfl (hb hby dB_30) rfl ?_
          show Steps p.tables e below (T0.setTop (mkF m 31 #[.val (.ref a1), .val (.ref a2), .val (.int p3), .val (.ref tg), .val (.int zl), .val (.int i), .val (.int t)] [(.int p3), (.long (gc tk)), (.int t), (.ref a2)])) _
          refine XS.i2l X0.here hx rfl (hb hby dB_31) rfl ?_
          show Steps p.tables e below (T0.setTop (mkF m 32 #[.val (.ref a1), .val (.ref a2), .val (.int p3), .val (.ref tg), .val (.int zl), .val (.int i), .val (.int t)] [(.long (p3.toInt64)), (.long (gc tk)), (.int t), (.ref a2)])) _
          refine XS.aloadN X0.here hx rfl (hb hby dB_32) rfl rfl ?_
          show Steps p.tables e below (T0.setTop (mkF m 33 #[.val (.ref a1), .val (.ref a2), .val (.int p3), .val (.ref tg), .val (.int zl), .val (.int i), .val (.int t)] [(.ref a1), (.long (p3.toInt64)), (.long (gc tk)), (.int t), (.ref a2)])) _
          refine st4 _ ?_
          show Steps p.tables e below (T4.setTop (mkF m 36 #[.val (.ref a1), .val (.ref a2), .val (.int p3), .val (.ref tg), .val (.int zl), .val (.int i), .val (.int t)] [(.long sz), (.long (p3.toInt64)), (.long (gc tk)), (.int t), (.ref a2)])) _
          refine XS.lmul X4.here hx rfl (hb hby dB_36) rfl ?_
          show Steps p.tables e below (T4.setTop (mkF m 37 #[.val (.ref a1), .val (.ref a2), .val (.int p3), .val (.ref tg), .val (.int zl), .val (.int i), .val (.int t)] [(.long ((p3.toInt64) * sz)), (.long (gc tk)), (.int t), (.ref a2)])) _
          refine XS.ladd X4.here hx rfl (hb hby dB_37) rfl ?_
          show Steps p.tables e below (T4.setTop (mkF m 38 #[.val (.ref a1), .val (.ref a2), .val (.int p3), .val (.ref tg), .val (.int zl), .val (.int i), .val (.int t)] [(.long ((gc tk) + ((p3.toInt64) * sz))), (.int t), (.ref a2)])) _
          refine st5 _ ?_
          show Steps p.tables e below (T5.setTop (mkF m 39 #[.val (.ref a1), .val (.ref a2), .val (.int p3), .val (.ref tg), .val (.int zl), .val (.int i), .val (.int t)] [])) _
          refine XS.iinc X5.here hx rfl (hb hby dB_39) rfl (l' := #[.val (.ref a1), .val (.ref a2), .val (.int p3), .val (.ref tg), .val (.int zl), .val (.int (i + (1 : Int32))), .val (.int t)]) rfl ?_
          show Steps p.tables e below (T5.setTop (mkF m 42 #[.val (.ref a1), .val (.ref a2), .val (.int p3), .val (.ref tg), .val (.int zl), .val (.int (i + (1 : Int32))), .val (.int t)] [])) _
          refine XS.goto X5.here hx rfl (pc0 := 42) (pc' := 12) rfl (hb hby dB_42) (by decide) (by decide) ?_
          show Steps p.tables e below (T5.setTop (mkF m 12 #[.val (.ref a1), .val (.ref a2), .val (.int p3), .val (.ref tg), .val (.int zl), .val (.int (i + (1 : Int32))), .val (.int t)] [])) _
          exact k_)
      have AN : OArr Z h5 a2 .long 4 (fun j => .long (own_add (p3.toInt64 * sz) gc t.toInt.toNat j)) := A5.congr (fun j _ => by
        have q : t.toInt.toNat = tk := by rw [htk2]; rfl
        rw [q]
        by_cases z : j = tk
        · subst z; rw [oUpd_same]; simp [own_add]
        · rw [oUpd_ne z]; simp [own_add, z])
      obtain ⟨T', h', L', i', s6', X', e', N', K', A', st'⟩ := ih (done ++ [t]) T5 h5 _ (i + (1 : Int32)) (.val (.int t)) _ (by rw [hts, List.append_assoc]; rfl) (by rw [own_inc hi (by omega), List.length_append]; rfl) (Or.inr ⟨_, rfl, rfl⟩) X5 e5 N5 Z5 K5 AN
      exact ⟨T', h', L', i', s6', X', e', N', K', A', fun t_ k_ => pre9 t_ (st' t_ k_)⟩
  obtain ⟨T', h', L', i', s6', X', e', N', K', A', st'⟩ := loop ts [] T1 h0 _ (0 : Int32) .unset g rfl rfl (Or.inl rfl) X1 e1 N0 Z0 (Keep.refl h0 [a2]) A2
  have preL : ∀ t, Steps p.tables e below (T'.setTop (mkF m 45 #[.val (.ref a1), .val (.ref a2), .val (.int p3), .val (.ref tg), .val (.int zl), .val (.int i'), s6'] [])) t → Steps p.tables e below (s₁.setTop (entryFrame m #[(.ref a1), (.ref a2), (.int p3)] 7)) t := fun t k => pre2 t (st' t k)
  obtain ⟨fs, hr, hrun, hended, hW, hsame⟩ := X'.leave (v := none) (fun _ => rfl)
  refine ⟨_, _, preL _ ?_, hrun, hended, _, _, rfl, ?_, ⟨_, rfl⟩, hW, hsame.mono (by decide) (by decide)⟩
  · exact X'.returnOut hx Bd.returns (hb hby dB_45) hr
  · show QB Z a1 a2 p3 tg kn zl ts G g sz h0 n0 _ T'.heap _
    rw [e']
    exact ⟨rfl, N', K', A'⟩
theorem pd0_0 : parseMethodDescriptor "([IJ)V" = some ⟨[(.array .int), .long], none⟩ := by decide +kernel
theorem pd0_1 : parseMethodDescriptor "([JI)V" = some ⟨[(.array .long), .int], none⟩ := by decide +kernel
theorem pn0 : plainName "com/example/shapewell/shapewell/validate/ShareOfferPinLaw" = true := by first | (simp [plainName, overriddenIn]; done) | decide +kernel
theorem ef0 (m : MethodId) (p0 : Int32) (p1 : Int32) (q2 : Int64) (q3 : Int64) (q4 : Int64) (q5 : Int64) : entryFrame m #[(.int p0), (.int p1), (.long q2), (.long q3), (.long q4), (.long q5)] maxLocals = mkF m 0 #[.val (.int p0), .val (.int p1), .val (.long q2), .second, .val (.long q3), .second, .val (.long q4), .second, .val (.long q5), .second, .unset, .unset, .unset, .unset, .unset, .unset, .unset, .unset, .unset, .unset, .unset, .unset, .unset, .unset, .unset, .unset, .unset] [] := by first | (simp [entryFrame, mkF, argsToLocals, Value.category, maxLocals]; done) | rfl
def Q0 (Z : State) (p0 p1 : Int32) (q2 q3 q4 q5 : Int64) (h0 : Heap) (n0 : Nat) (v : Option Value) (h : Heap) (L : List Loc) : Prop := v = some (.int 1) ∧ Fr n0 L
set_option maxRecDepth 65536 in
set_option maxHeartbeats 40000000 in
theorem rm0 (l : Launch) (Z : State) (a0 : Array Value) (hw : ∀ d ∈ tables_1, d.before a0 Z = true) (ws : List Jvm.Cond) (p0 p1 : Int32) (q2 q3 q4 q5 : Int64) (h0 : Heap) (n0 : Nat) (Z0 : n0 ≤ h0.size) :
    MetFree l x (head1 (Jvm.Cond.code x code maxLocals ret :: ws) room_1) (fun a U => a = #[(.int p0), (.int p1), (.long q2), (.long q3), (.long q4), (.long q5)] ∧ Z.Warmed39 U.vm ∧ U.heap = h0) (fun _ _ _ _ _ => True) (fun _ U o U' => ∃ v L, o = .returned v ∧ Q0 Z p0 p1 q2 q3 q4 q5 h0 n0 v U'.heap L ∧ FrameEnd U o U' L room_1.cells room_1.slots) := by
  refine MetFree.of_bodySF (plainFor_of_name pn0) hisR ?_
  intro p e s m args below meth c s₁ Bd hml0 hP hK
  obtain ⟨rfl, hZ, hh⟩ := hP
  have hx := Bd.exec
  have hby := Bd.bytes
  have hml : c.maxLocals = 27 := hml0
  have hown : s.vm.findClass "com/example/shapewell/shapewell/validate/ShareOfferPinLaw" = some m.cls := findClass_of_methodNamed Bd.named
  have hnm := (name_of_methodNamed Bd.named Bd.method).1
  have X0 : Stand p l e room_1 s m #[(.int p0), (.int p1), (.long q2), (.long q3), (.long q4), (.long q5)] below meth c s₁ [] 0 0 := Stand.of_body Bd
  have e0 : s₁.heap = h0 := by rw [← hh, Bd.state]; rfl
  have N0 := Fr.nil n0
  have pre0 : ∀ t, Steps p.tables e below (s₁.setTop (mkF m 0 #[.val (.int p0), .val (.int p1), .val (.long q2), .second, .val (.long q3), .second, .val (.long q4), .second, .val (.long q5), .second, .unset, .unset, .unset, .unset, .unset, .unset, .unset, .unset, .unset, .unset, .unset, .unset, .unset, .unset, .unset, .unset, .unset] [])) t → Steps p.tables e below (s₁.setTop (entryFrame m #[(.int p0), (.int p1), (.long q2), (.long q3), (.long q4), (.long q5)] maxLocals)) t := fun t k => castTop (ef0 m p0 p1 q2 q3 q4 q5) k
  obtain ⟨v1, hv1, pre1⟩ : ∃ (v1 : Int32), (v1 = (0 : Int32) ∨ v1 = (1 : Int32)) ∧ ∀ t_, Steps p.tables e below (s₁.setTop (mkF m 11 #[.val (.int p0), .val (.int p1), .val (.long q2), .second, .val (.long q3), .second, .val (.long q4), .second, .val (.long q5), .second, .unset, .unset, .unset, .unset, .unset, .unset, .unset, .unset, .unset, .unset, .unset, .unset, .unset, .unset, .unset, .unset, .unset] [(.int v1)])) t_ → Steps p.tables e below (s₁.setTop (entryFrame m #[(.int p0), (.int p1), (.long q2), (.long q3), (.long q4), (.long q5)] maxLocals)) t_ := by
    have pre2 : ∀ t_, Steps p.tables e below (s₁.setTop (mkF m 3 #[.val (.int p0), .val (.int p1), .val (.long q2), .second, .val (.long q3), .second, .val (.long q4), .second, .val (.long q5), .second, .unset, .unset, .unset, .unset, .unset, .unset, .unset, .unset, .unset, .unset, .unset, .unset, .unset, .unset, .unset, .unset, .unset] [(.int (p0 &&& (1 : Int32)))])) t_ → Steps p.tables e below (s₁.setTop (entryFrame m #[(.int p0), (.int p1), (.long q2), (.long q3), (.long q4), (.long q5)] maxLocals)) t_ := fun t_ k_ => pre0 t_ (by
        refine XS.iloadN X0.here hx rfl (hb hby at_0) rfl ?_
        show Steps p.tables e below (s₁.setTop (mkF m 1 #[.val (.int p0), .val (.int p1), .val (.long q2), .second, .val (.long q3), .second, .val (.long q4), .second, .val (.long q5), .second, .unset, .unset, .unset, .unset, .unset, .unset, .unset, .unset, .unset, .unset, .unset, .unset, .unset, .unset, .unset, .unset, .unset] [(.int p0)])) _
        refine XS.iconst X0.here hx rfl (hb hby at_1) ?_
        show Steps p.tables e below (s₁.setTop (mkF m 2 #[.val (.int p0), .val (.int p1), .val (.long q2), .second, .val (.long q3), .second, .val (.long q4), .second, .val (.long q5), .second, .unset, .unset, .unset, .unset, .unset, .unset, .unset, .unset, .unset, .unset, .unset, .unset, .unset, .unset, .unset, .unset, .unset] [(.int (1 : Int32)), (.int p0)])) _
        refine XS.iand X0.here hx rfl (hb hby at_2) rfl ?_
        show Steps p.tables e below (s₁.setTop (mkF m 3 #[.val (.int p0), .val (.int p1), .val (.long q2), .second, .val (.long q3), .second, .val (.long q4), .second, .val (.long q5), .second, .unset, .unset, .unset, .unset, .unset, .unset, .unset, .unset, .unset, .unset, .unset, .unset, .unset, .unset, .unset, .unset, .unset] [(.int (p0 &&& (1 : Int32)))])) _
        exact k_)
    by_cases c3_3 : (p0 &&& (1 : Int32)) = (0 : Int32)
    · have pre4 : ∀ t_, Steps p.tables e below (s₁.setTop (mkF m 11 #[.val (.int p0), .val (.int p1), .val (.long q2), .second, .val (.long q3), .second, .val (.long q4), .second, .val (.long q5), .second, .unset, .unset, .unset, .unset, .unset, .unset, .unset, .unset, .unset, .unset, .unset, .unset, .unset, .unset, .unset, .unset, .unset] [(.int (0 : Int32))])) t_ → Steps p.tables e below (s₁.setTop (entryFrame m #[(.int p0), (.int p1), (.long q2), (.long q3), (.long q4), (.long q5)] maxLocals)) t_ := fun t_ k_ => pre2 t_ (by
          refine XS.ifYes X0.here hx rfl (pc0 := 3) (pc' := 10) rfl (hb hby at_3) rfl ((if0 _ _).trans (teq c3_3).1) (by decide) (by decide) ?_
          show Steps p.tables e below (s₁.setTop (mkF m 10 #[.val (.int p0), .val (.int p1), .val (.long q2), .second, .val (.long q3), .second, .val (.long q4), .second, .val (.long q5), .second, .unset, .unset, .unset, .unset, .unset, .unset, .unset, .unset, .unset, .unset, .unset, .unset, .unset, .unset, .unset, .unset, .unset] [])) _
          refine XS.iconst X0.here hx rfl (hb hby at_10) ?_
          show Steps p.tables e below (s₁.setTop (mkF m 11 #[.val (.int p0), .val (.int p1), .val (.long q2), .second, .val (.long q3), .second, .val (.long q4), .second, .val (.long q5), .second, .unset, .unset, .unset, .unset, .unset, .unset, .unset, .unset, .unset, .unset, .unset, .unset, .unset, .unset, .unset, .unset, .unset] [(.int (0 : Int32))])) _
          exact k_)
      exact ⟨(0 : Int32), Or.inl rfl, pre4⟩
    · have pre5 : ∀ t_, Steps p.tables e below (s₁.setTop (mkF m 11 #[.val (.int p0), .val (.int p1), .val (.long q2), .second, .val (.long q3), .second, .val (.long q4), .second, .val (.long q5), .second, .unset, .unset, .unset, .unset, .unset, .unset, .unset, .unset, .unset, .unset, .unset, .unset, .unset, .unset, .unset, .unset, .unset] [(.int (1 : Int32))])) t_ → Steps p.tables e below (s₁.setTop (entryFrame m #[(.int p0), (.int p1), (.long q2), (.long q3), (.long q4), (.long q5)] maxLocals)) t_ := fun t_ k_ => pre2 t_ (by
          refine XS.ifNo X0.here hx rfl (hb hby at_3) rfl ((if0 _ _).trans (feq c3_3).1) ?_
          show Steps p.tables e below (s₁.setTop (mkF m 6 #[.val (.int p0), .val (.int p1), .val (.long q2), .second, .val (.long q3), .second, .val (.long q4), .second, .val (.long q5), .second, .unset, .unset, .unset, .unset, .unset, .unset, .unset, .unset, .unset, .unset, .unset, .unset, .unset, .unset, .unset, .unset, .unset] [])) _
          refine XS.iconst X0.here hx rfl (hb hby at_6) ?_
          show Steps p.tables e below (s₁.setTop (mkF m 7 #[.val (.int p0), .val (.int p1), .val (.long q2), .second, .val (.long q3), .second, .val (.long q4), .second, .val (.long q5), .second, .unset, .unset, .unset, .unset, .unset, .unset, .unset, .unset, .unset, .unset, .unset, .unset, .unset, .unset, .unset, .unset, .unset] [(.int (1 : Int32))])) _
          refine XS.goto X0.here hx rfl (pc0 := 7) (pc' := 11) rfl (hb hby at_7) (by decide) (by decide) ?_
          show Steps p.tables e below (s₁.setTop (mkF m 11 #[.val (.int p0), .val (.int p1), .val (.long q2), .second, .val (.long q3), .second, .val (.long q4), .second, .val (.long q5), .second, .unset, .unset, .unset, .unset, .unset, .unset, .unset, .unset, .unset, .unset, .unset, .unset, .unset, .unset, .unset, .unset, .unset] [(.int (1 : Int32))])) _
          exact k_)
      exact ⟨(1 : Int32), Or.inr rfl, pre5⟩
  obtain ⟨v6, hv6, pre6⟩ : ∃ (v6 : Int32), (v6 = (0 : Int32) ∨ v6 = (1 : Int32)) ∧ ∀ t_, Steps p.tables e below (s₁.setTop (mkF m 24 #[.val (.int p0), .val (.int p1), .val (.long q2), .second, .val (.long q3), .second, .val (.long q4), .second, .val (.long q5), .second, .val (.int v1), .unset, .unset, .unset, .unset, .unset, .unset, .unset, .unset, .unset, .unset, .unset, .unset, .unset, .unset, .unset, .unset] [(.int v6)])) t_ → Steps p.tables e below (s₁.setTop (entryFrame m #[(.int p0), (.int p1), (.long q2), (.long q3), (.long q4), (.long q5)] maxLocals)) t_ := by
    have pre7 : ∀ t_, Steps p.tables e below (s₁.setTop (mkF m 16 #[.val (.int p0), .val (.int p1), .val (.long q2), .second, .val (.long q3), .second, .val (.long q4), .second, .val (.long q5), .second, .val (.int v1), .unset, .unset, .unset, .unset, .unset, .unset, .unset, .unset, .unset, .unset, .unset, .unset, .unset, .unset, .unset, .unset] [(.int (p0 &&& (2 : Int32)))])) t_ → Steps p.tables e below (s₁.setTop (entryFrame m #[(.int p0), (.int p1), (.long q2), (.long q3), (.long q4), (.long q5)] maxLocals)) t_ := fun t_ k_ => pre1 t_ (by
        refine XS.istore X0.here hx rfl (hb hby at_11) rfl (l' := #[.val (.int p0), .val (.int p1), .val (.long q2), .second, .val (.long q3), .second, .val (.long q4), .second, .val (.long q5), .second, .val (.int v1), .unset, .unset, .unset, .unset, .unset, .unset, .unset, .unset, .unset, .unset, .unset, .unset, .unset, .unset, .unset, .unset]) rfl ?_
        show Steps p.tables e below (s₁.setTop (mkF m 13 #[.val (.int p0), .val (.int p1), .val (.long q2), .second, .val (.long q3), .second, .val (.long q4), .second, .val (.long q5), .second, .val (.int v1), .unset, .unset, .unset, .unset, .unset, .unset, .unset, .unset, .unset, .unset, .unset, .unset, .unset, .unset, .unset, .unset] [])) _
        refine XS.iloadN X0.here hx rfl (hb hby at_13) rfl ?_
        show Steps p.tables e below (s₁.setTop (mkF m 14 #[.val (.int p0), .val (.int p1), .val (.long q2), .second, .val (.long q3), .second, .val (.long q4), .second, .val (.long q5), .second, .val (.int v1), .unset, .unset, .unset, .unset, .unset, .unset, .unset, .unset, .unset, .unset, .unset, .unset, .unset, .unset, .unset, .unset] [(.int p0)])) _
        refine XS.iconst X0.here hx rfl (hb hby at_14) ?_
        show Steps p.tables e below (s₁.setTop (mkF m 15 #[.val (.int p0), .val (.int p1), .val (.long q2), .second, .val (.long q3), .second, .val (.long q4), .second, .val (.long q5), .second, .val (.int v1), .unset, .unset, .unset, .unset, .unset, .unset, .unset, .unset, .unset, .unset, .unset, .unset, .unset, .unset, .unset, .unset] [(.int (2 : Int32)), (.int p0)])) _
        refine XS.iand X0.here hx rfl (hb hby at_15) rfl ?_
        show Steps p.tables e below (s₁.setTop (mkF m 16 #[.val (.int p0), .val (.int p1), .val (.long q2), .second, .val (.long q3), .second, .val (.long q4), .second, .val (.long q5), .second, .val (.int v1), .unset, .unset, .unset, .unset, .unset, .unset, .unset, .unset, .unset, .unset, .unset, .unset, .unset, .unset, .unset, .unset] [(.int (p0 &&& (2 : Int32)))])) _
        exact k_)
    by_cases c16_8 : (p0 &&& (2 : Int32)) = (0 : Int32)
    · have pre9 : ∀ t_, Steps p.tables e below (s₁.setTop (mkF m 24 #[.val (.int p0), .val (.int p1), .val (.long q2), .second, .val (.long q3), .second, .val (.long q4), .second, .val (.long q5), .second, .val (.int v1), .unset, .unset, .unset, .unset, .unset, .unset, .unset, .unset, .unset, .unset, .unset, .unset, .unset, .unset, .unset, .unset] [(.int (0 : Int32))])) t_ → Steps p.tables e below (s₁.setTop (entryFrame m #[(.int p0), (.int p1), (.long q2), (.long q3), (.long q4), (.long q5)] maxLocals)) t_ := fun t_ k_ => pre7 t_ (by
          refine XS.ifYes X0.here hx rfl (pc0 := 16) (pc' := 23) rfl (hb hby at_16) rfl ((if0 _ _).trans (teq c16_8).1) (by decide) (by decide) ?_
          show Steps p.tables e below (s₁.setTop (mkF m 23 #[.val (.int p0), .val (.int p1), .val (.long q2), .second, .val (.long q3), .second, .val (.long q4), .second, .val (.long q5), .second, .val (.int v1), .unset, .unset, .unset, .unset, .unset, .unset, .unset, .unset, .unset, .unset, .unset, .unset, .unset, .unset, .unset, .unset] [])) _
          refine XS.iconst X0.here hx rfl (hb hby at_23) ?_
          show Steps p.tables e below (s₁.setTop (mkF m 24 #[.val (.int p0), .val (.int p1), .val (.long q2), .second, .val (.long q3), .second, .val (.long q4), .second, .val (.long q5), .second, .val (.int v1), .unset, .unset, .unset, .unset, .unset, .unset, .unset, .unset, .unset, .unset, .unset, .unset, .unset, .unset, .unset, .unset] [(.int (0 : Int32))])) _
          exact k_)
      exact ⟨(0 : Int32), Or.inl rfl, pre9⟩
    · have pre10 : ∀ t_, Steps p.tables e below (s₁.setTop (mkF m 24 #[.val (.int p0), .val (.int p1), .val (.long q2), .second, .val (.long q3), .second, .val (.long q4), .second, .val (.long q5), .second, .val (.int v1), .unset, .unset, .unset, .unset, .unset, .unset, .unset, .unset, .unset, .unset, .unset, .unset, .unset, .unset, .unset, .unset] [(.int (1 : Int32))])) t_ → Steps p.tables e below (s₁.setTop (entryFrame m #[(.int p0), (.int p1), (.long q2), (.long q3), (.long q4), (.long q5)] maxLocals)) t_ := fun t_ k_ => pre7 t_ (by
          refine XS.ifNo X0.here hx rfl (hb hby at_16) rfl ((if0 _ _).trans (feq c16_8).1) ?_
          show Steps p.tables e below (s₁.setTop (mkF m 19 #[.val (.int p0), .val (.int p1), .val (.long q2), .second, .val (.long q3), .second, .val (.long q4), .second, .val (.long q5), .second, .val (.int v1), .unset, .unset, .unset, .unset, .unset, .unset, .unset, .unset, .unset, .unset, .unset, .unset, .unset, .unset, .unset, .unset] [])) _
          refine XS.iconst X0.here hx rfl (hb hby at_19) ?_
          show Steps p.tables e below (s₁.setTop (mkF m 20 #[.val (.int p0), .val (.int p1), .val (.long q2), .second, .val (.long q3), .second, .val (.long q4), .second, .val (.long q5), .second, .val (.int v1), .unset, .unset, .unset, .unset, .unset, .unset, .unset, .unset, .unset, .unset, .unset, .unset, .unset, .unset, .unset, .unset] [(.int (1 : Int32))])) _
          refine XS.goto X0.here hx rfl (pc0 := 20) (pc' := 24) rfl (hb hby at_20) (by decide) (by decide) ?_
          show Steps p.tables e below (s₁.setTop (mkF m 24 #[.val (.int p0), .val (.int p1), .val (.long q2), .second, .val (.long q3), .second, .val (.long q4), .second, .val (.long q5), .second, .val (.int v1), .unset, .unset, .unset, .unset, .unset, .unset, .unset, .unset, .unset, .unset, .unset, .unset, .unset, .unset, .unset, .unset] [(.int (1 : Int32))])) _
          exact k_)
      exact ⟨(1 : Int32), Or.inr rfl, pre10⟩
  obtain ⟨v11, hv11, pre11⟩ : ∃ (v11 : Int32), (v11 = (0 : Int32) ∨ v11 = (1 : Int32)) ∧ ∀ t_, Steps p.tables e below (s₁.setTop (mkF m 37 #[.val (.int p0), .val (.int p1), .val (.long q2), .second, .val (.long q3), .second, .val (.long q4), .second, .val (.long q5), .second, .val (.int v1), .val (.int v6), .unset, .unset, .unset, .unset, .unset, .unset, .unset, .unset, .unset, .unset, .unset, .unset, .unset, .unset, .unset] [(.int v11)])) t_ → Steps p.tables e below (s₁.setTop (entryFrame m #[(.int p0), (.int p1), (.long q2), (.long q3), (.long q4), (.long q5)] maxLocals)) t_ := by
    have pre12 : ∀ t_, Steps p.tables e below (s₁.setTop (mkF m 29 #[.val (.int p0), .val (.int p1), .val (.long q2), .second, .val (.long q3), .second, .val (.long q4), .second, .val (.long q5), .second, .val (.int v1), .val (.int v6), .unset, .unset, .unset, .unset, .unset, .unset, .unset, .unset, .unset, .unset, .unset, .unset, .unset, .unset, .unset] [(.int (p0 &&& (4 : Int32)))])) t_ → Steps p.tables e below (s₁.setTop (entryFrame m #[(.int p0), (.int p1), (.long q2), (.long q3), (.long q4), (.long q5)] maxLocals)) t_ := fun t_ k_ => pre6 t_ (by
        refine XS.istore X0.here hx rfl (hb hby at_24) rfl (l' := #[.val (.int p0), .val (.int p1), .val (.long q2), .second, .val (.long q3), .second, .val (.long q4), .second, .val (.long q5), .second, .val (.int v1), .val (.int v6), .unset, .unset, .unset, .unset, .unset, .unset, .unset, .unset, .unset, .unset, .unset, .unset, .unset, .unset, .unset]) rfl ?_
        show Steps p.tables e below (s₁.setTop (mkF m 26 #[.val (.int p0), .val (.int p1), .val (.long q2), .second, .val (.long q3), .second, .val (.long q4), .second, .val (.long q5), .second, .val (.int v1), .val (.int v6), .unset, .unset, .unset, .unset, .unset, .unset, .unset, .unset, .unset, .unset, .unset, .unset, .unset, .unset, .unset] [])) _
        refine XS.iloadN X0.here hx rfl (hb hby at_26) rfl ?_
        show Steps p.tables e below (s₁.setTop (mkF m 27 #[.val (.int p0), .val (.int p1), .val (.long q2), .second, .val (.long q3), .second, .val (.long q4), .second, .val (.long q5), .second, .val (.int v1), .val (.int v6), .unset, .unset, .unset, .unset, .unset, .unset, .unset, .unset, .unset, .unset, .unset, .unset, .unset, .unset, .unset] [(.int p0)])) _
        refine XS.iconst X0.here hx rfl (hb hby at_27) ?_
        show Steps p.tables e below (s₁.setTop (mkF m 28 #[.val (.int p0), .val (.int p1), .val (.long q2), .second, .val (.long q3), .second, .val (.long q4), .second, .val (.long q5), .second, .val (.int v1), .val (.int v6), .unset, .unset, .unset, .unset, .unset, .unset, .unset, .unset, .unset, .unset, .unset, .unset, .unset, .unset, .unset] [(.int (4 : Int32)), (.int p0)])) _
        refine XS.iand X0.here hx rfl (hb hby at_28) rfl ?_
        show Steps p.tables e below (s₁.setTop (mkF m 29 #[.val (.int p0), .val (.int p1), .val (.long q2), .second, .val (.long q3), .second, .val (.long q4), .second, .val (.long q5), .second, .val (.int v1), .val (.int v6), .unset, .unset, .unset, .unset, .unset, .unset, .unset, .unset, .unset, .unset, .unset, .unset, .unset, .unset, .unset] [(.int (p0 &&& (4 : Int32)))])) _
        exact k_)
    by_cases c29_13 : (p0 &&& (4 : Int32)) = (0 : Int32)
    · have pre14 : ∀ t_, Steps p.tables e below (s₁.setTop (mkF m 37 #[.val (.int p0), .val (.int p1), .val (.long q2), .second, .val (.long q3), .second, .val (.long q4), .second, .val (.long q5), .second, .val (.int v1), .val (.int v6), .unset, .unset, .unset, .unset, .unset, .unset, .unset, .unset, .unset, .unset, .unset, .unset, .unset, .unset, .unset] [(.int (0 : Int32))])) t_ → Steps p.tables e below (s₁.setTop (entryFrame m #[(.int p0), (.int p1), (.long q2), (.long q3), (.long q4), (.long q5)] maxLocals)) t_ := fun t_ k_ => pre12 t_ (by
          refine XS.ifYes X0.here hx rfl (pc0 := 29) (pc' := 36) rfl (hb hby at_29) rfl ((if0 _ _).trans (teq c29_13).1) (by decide) (by decide) ?_
          show Steps p.tables e below (s₁.setTop (mkF m 36 #[.val (.int p0), .val (.int p1), .val (.long q2), .second, .val (.long q3), .second, .val (.long q4), .second, .val (.long q5), .second, .val (.int v1), .val (.int v6), .unset, .unset, .unset, .unset, .unset, .unset, .unset, .unset, .unset, .unset, .unset, .unset, .unset, .unset, .unset] [])) _
          refine XS.iconst X0.here hx rfl (hb hby at_36) ?_
          show Steps p.tables e below (s₁.setTop (mkF m 37 #[.val (.int p0), .val (.int p1), .val (.long q2), .second, .val (.long q3), .second, .val (.long q4), .second, .val (.long q5), .second, .val (.int v1), .val (.int v6), .unset, .unset, .unset, .unset, .unset, .unset, .unset, .unset, .unset, .unset, .unset, .unset, .unset, .unset, .unset] [(.int (0 : Int32))])) _
          exact k_)
      exact ⟨(0 : Int32), Or.inl rfl, pre14⟩
    · have pre15 : ∀ t_, Steps p.tables e below (s₁.setTop (mkF m 37 #[.val (.int p0), .val (.int p1), .val (.long q2), .second, .val (.long q3), .second, .val (.long q4), .second, .val (.long q5), .second, .val (.int v1), .val (.int v6), .unset, .unset, .unset, .unset, .unset, .unset, .unset, .unset, .unset, .unset, .unset, .unset, .unset, .unset, .unset] [(.int (1 : Int32))])) t_ → Steps p.tables e below (s₁.setTop (entryFrame m #[(.int p0), (.int p1), (.long q2), (.long q3), (.long q4), (.long q5)] maxLocals)) t_ := fun t_ k_ => pre12 t_ (by
          refine XS.ifNo X0.here hx rfl (hb hby at_29) rfl ((if0 _ _).trans (feq c29_13).1) ?_
          show Steps p.tables e below (s₁.setTop (mkF m 32 #[.val (.int p0), .val (.int p1), .val (.long q2), .second, .val (.long q3), .second, .val (.long q4), .second, .val (.long q5), .second, .val (.int v1), .val (.int v6), .unset, .unset, .unset, .unset, .unset, .unset, .unset, .unset, .unset, .unset, .unset, .unset, .unset, .unset, .unset] [])) _
          refine XS.iconst X0.here hx rfl (hb hby at_32) ?_
          show Steps p.tables e below (s₁.setTop (mkF m 33 #[.val (.int p0), .val (.int p1), .val (.long q2), .second, .val (.long q3), .second, .val (.long q4), .second, .val (.long q5), .second, .val (.int v1), .val (.int v6), .unset, .unset, .unset, .unset, .unset, .unset, .unset, .unset, .unset, .unset, .unset, .unset, .unset, .unset, .unset] [(.int (1 : Int32))])) _
          refine XS.goto X0.here hx rfl (pc0 := 33) (pc' := 37) rfl (hb hby at_33) (by decide) (by decide) ?_
          show Steps p.tables e below (s₁.setTop (mkF m 37 #[.val (.int p0), .val (.int p1), .val (.long q2), .second, .val (.long q3), .second, .val (.long q4), .second, .val (.long q5), .second, .val (.int v1), .val (.int v6), .unset, .unset, .unset, .unset, .unset, .unset, .unset, .unset, .unset, .unset, .unset, .unset, .unset, .unset, .unset] [(.int (1 : Int32))])) _
          exact k_)
      exact ⟨(1 : Int32), Or.inr rfl, pre15⟩
  obtain ⟨v16, hv16, pre16⟩ : ∃ (v16 : Int32), (v16 = (0 : Int32) ∨ v16 = (1 : Int32)) ∧ ∀ t_, Steps p.tables e below (s₁.setTop (mkF m 51 #[.val (.int p0), .val (.int p1), .val (.long q2), .second, .val (.long q3), .second, .val (.long q4), .second, .val (.long q5), .second, .val (.int v1), .val (.int v6), .val (.int v11), .unset, .unset, .unset, .unset, .unset, .unset, .unset, .unset, .unset, .unset, .unset, .unset, .unset, .unset] [(.int v16)])) t_ → Steps p.tables e below (s₁.setTop (entryFrame m #[(.int p0), (.int p1), (.long q2), (.long q3), (.long q4), (.long q5)] maxLocals)) t_ := by
    have pre17 : ∀ t_, Steps p.tables e below (s₁.setTop (mkF m 43 #[.val (.int p0), .val (.int p1), .val (.long q2), .second, .val (.long q3), .second, .val (.long q4), .second, .val (.long q5), .second, .val (.int v1), .val (.int v6), .val (.int v11), .unset, .unset, .unset, .unset, .unset, .unset, .unset, .unset, .unset, .unset, .unset, .unset, .unset, .unset] [(.int (p0 &&& (8 : Int32)))])) t_ → Steps p.tables e below (s₁.setTop (entryFrame m #[(.int p0), (.int p1), (.long q2), (.long q3), (.long q4), (.long q5)] maxLocals)) t_ := fun t_ k_ => pre11 t_ (by
        refine XS.istore X0.here hx rfl (hb hby at_37) rfl (l' := #[.val (.int p0), .val (.int p1), .val (.long q2), .second, .val (.long q3), .second, .val (.long q4), .second, .val (.long q5), .second, .val (.int v1), .val (.int v6), .val (.int v11), .unset, .unset, .unset, .unset, .unset, .unset, .unset, .unset, .unset, .unset, .unset, .unset, .unset, .unset]) rfl ?_
        show Steps p.tables e below (s₁.setTop (mkF m 39 #[.val (.int p0), .val (.int p1), .val (.long q2), .second, .val (.long q3), .second, .val (.long q4), .second, .val (.long q5), .second, .val (.int v1), .val (.int v6), .val (.int v11), .unset, .unset, .unset, .unset, .unset, .unset, .unset, .unset, .unset, .unset, .unset, .unset, .unset, .unset] [])) _
        refine XS.iloadN X0.here hx rfl (hb hby at_39) rfl ?_
        show Steps p.tables e below (s₁.setTop (mkF m 40 #[.val (.int p0), .val (.int p1), .val (.long q2), .second, .val (.long q3), .second, .val (.long q4), .second, .val (.long q5), .second, .val (.int v1), .val (.int v6), .val (.int v11), .unset, .unset, .unset, .unset, .unset, .unset, .unset, .unset, .unset, .unset, .unset, .unset, .unset, .unset] [(.int p0)])) _
        refine XS.bipush X0.here hx rfl (hb hby at_40) ?_
        show Steps p.tables e below (s₁.setTop (mkF m 42 #[.val (.int p0), .val (.int p1), .val (.long q2), .second, .val (.long q3), .second, .val (.long q4), .second, .val (.long q5), .second, .val (.int v1), .val (.int v6), .val (.int v11), .unset, .unset, .unset, .unset, .unset, .unset, .unset, .unset, .unset, .unset, .unset, .unset, .unset, .unset] [(.int (8 : Int32)), (.int p0)])) _
        refine XS.iand X0.here hx rfl (hb hby at_42) rfl ?_
        show Steps p.tables e below (s₁.setTop (mkF m 43 #[.val (.int p0), .val (.int p1), .val (.long q2), .second, .val (.long q3), .second, .val (.long q4), .second, .val (.long q5), .second, .val (.int v1), .val (.int v6), .val (.int v11), .unset, .unset, .unset, .unset, .unset, .unset, .unset, .unset, .unset, .unset, .unset, .unset, .unset, .unset] [(.int (p0 &&& (8 : Int32)))])) _
        exact k_)
    by_cases c43_18 : (p0 &&& (8 : Int32)) = (0 : Int32)
    · have pre19 : ∀ t_, Steps p.tables e below (s₁.setTop (mkF m 51 #[.val (.int p0), .val (.int p1), .val (.long q2), .second, .val (.long q3), .second, .val (.long q4), .second, .val (.long q5), .second, .val (.int v1), .val (.int v6), .val (.int v11), .unset, .unset, .unset, .unset, .unset, .unset, .unset, .unset, .unset, .unset, .unset, .unset, .unset, .unset] [(.int (0 : Int32))])) t_ → Steps p.tables e below (s₁.setTop (entryFrame m #[(.int p0), (.int p1), (.long q2), (.long q3), (.long q4), (.long q5)] maxLocals)) t_ := fun t_ k_ => pre17 t_ (by
          refine XS.ifYes X0.here hx rfl (pc0 := 43) (pc' := 50) rfl (hb hby at_43) rfl ((if0 _ _).trans (teq c43_18).1) (by decide) (by decide) ?_
          show Steps p.tables e below (s₁.setTop (mkF m 50 #[.val (.int p0), .val (.int p1), .val (.long q2), .second, .val (.long q3), .second, .val (.long q4), .second, .val (.long q5), .second, .val (.int v1), .val (.int v6), .val (.int v11), .unset, .unset, .unset, .unset, .unset, .unset, .unset, .unset, .unset, .unset, .unset, .unset, .unset, .unset] [])) _
          refine XS.iconst X0.here hx rfl (hb hby at_50) ?_
          show Steps p.tables e below (s₁.setTop (mkF m 51 #[.val (.int p0), .val (.int p1), .val (.long q2), .second, .val (.long q3), .second, .val (.long q4), .second, .val (.long q5), .second, .val (.int v1), .val (.int v6), .val (.int v11), .unset, .unset, .unset, .unset, .unset, .unset, .unset, .unset, .unset, .unset, .unset, .unset, .unset, .unset] [(.int (0 : Int32))])) _
          exact k_)
      exact ⟨(0 : Int32), Or.inl rfl, pre19⟩
    · have pre20 : ∀ t_, Steps p.tables e below (s₁.setTop (mkF m 51 #[.val (.int p0), .val (.int p1), .val (.long q2), .second, .val (.long q3), .second, .val (.long q4), .second, .val (.long q5), .second, .val (.int v1), .val (.int v6), .val (.int v11), .unset, .unset, .unset, .unset, .unset, .unset, .unset, .unset, .unset, .unset, .unset, .unset, .unset, .unset] [(.int (1 : Int32))])) t_ → Steps p.tables e below (s₁.setTop (entryFrame m #[(.int p0), (.int p1), (.long q2), (.long q3), (.long q4), (.long q5)] maxLocals)) t_ := fun t_ k_ => pre17 t_ (by
          refine XS.ifNo X0.here hx rfl (hb hby at_43) rfl ((if0 _ _).trans (feq c43_18).1) ?_
          show Steps p.tables e below (s₁.setTop (mkF m 46 #[.val (.int p0), .val (.int p1), .val (.long q2), .second, .val (.long q3), .second, .val (.long q4), .second, .val (.long q5), .second, .val (.int v1), .val (.int v6), .val (.int v11), .unset, .unset, .unset, .unset, .unset, .unset, .unset, .unset, .unset, .unset, .unset, .unset, .unset, .unset] [])) _
          refine XS.iconst X0.here hx rfl (hb hby at_46) ?_
          show Steps p.tables e below (s₁.setTop (mkF m 47 #[.val (.int p0), .val (.int p1), .val (.long q2), .second, .val (.long q3), .second, .val (.long q4), .second, .val (.long q5), .second, .val (.int v1), .val (.int v6), .val (.int v11), .unset, .unset, .unset, .unset, .unset, .unset, .unset, .unset, .unset, .unset, .unset, .unset, .unset, .unset] [(.int (1 : Int32))])) _
          refine XS.goto X0.here hx rfl (pc0 := 47) (pc' := 51) rfl (hb hby at_47) (by decide) (by decide) ?_
          show Steps p.tables e below (s₁.setTop (mkF m 51 #[.val (.int p0), .val (.int p1), .val (.long q2), .second, .val (.long q3), .second, .val (.long q4), .second, .val (.long q5), .second, .val (.int v1), .val (.int v6), .val (.int v11), .unset, .unset, .unset, .unset, .unset, .unset, .unset, .unset, .unset, .unset, .unset, .unset, .unset, .unset] [(.int (1 : Int32))])) _
          exact k_)
      exact ⟨(1 : Int32), Or.inr rfl, pre20⟩
  obtain ⟨w21, hv21, pre21⟩ : ∃ (w21 : Int32), (w21 = v1) ∧ ∀ t_, Steps p.tables e below (s₁.setTop (mkF m 63 #[.val (.int p0), .val (.int p1), .val (.long q2), .second, .val (.long q3), .second, .val (.long q4), .second, .val (.long q5), .second, .val (.int v1), .val (.int v6), .val (.int v11), .val (.int v16), .unset, .unset, .unset, .unset, .unset, .unset, .unset, .unset, .unset, .unset, .unset, .unset, .unset] [(.int w21)])) t_ → Steps p.tables e below (s₁.setTop (entryFrame m #[(.int p0), (.int p1), (.long q2), (.long q3), (.long q4), (.long q5)] maxLocals)) t_ := by
    have pre22 : ∀ t_, Steps p.tables e below (s₁.setTop (mkF m 55 #[.val (.int p0), .val (.int p1), .val (.long q2), .second, .val (.long q3), .second, .val (.long q4), .second, .val (.long q5), .second, .val (.int v1), .val (.int v6), .val (.int v11), .val (.int v16), .unset, .unset, .unset, .unset, .unset, .unset, .unset, .unset, .unset, .unset, .unset, .unset, .unset] [(.int v1)])) t_ → Steps p.tables e below (s₁.setTop (entryFrame m #[(.int p0), (.int p1), (.long q2), (.long q3), (.long q4), (.long q5)] maxLocals)) t_ := fun t_ k_ => pre16 t_ (by
        refine XS.istore X0.here hx rfl (hb hby at_51) rfl (l' := #[.val (.int p0), .val (.int p1), .val (.long q2), .second, .val (.long q3), .second, .val (.long q4), .second, .val (.long q5), .second, .val (.int v1), .val (.int v6), .val (.int v11), .val (.int v16), .unset, .unset, .unset, .unset, .unset, .unset, .unset, .unset, .unset, .unset, .unset, .unset, .unset]) rfl ?_
        show Steps p.tables e below (s₁.setTop (mkF m 53 #[.val (.int p0), .val (.int p1), .val (.long q2), .second, .val (.long q3), .second, .val (.long q4), .second, .val (.long q5), .second, .val (.int v1), .val (.int v6), .val (.int v11), .val (.int v16), .unset, .unset, .unset, .unset, .unset, .unset, .unset, .unset, .unset, .unset, .unset, .unset, .unset] [])) _
        refine XS.iload X0.here hx rfl (hb hby at_53) rfl ?_
        show Steps p.tables e below (s₁.setTop (mkF m 55 #[.val (.int p0), .val (.int p1), .val (.long q2), .second, .val (.long q3), .second, .val (.long q4), .second, .val (.long q5), .second, .val (.int v1), .val (.int v6), .val (.int v11), .val (.int v16), .unset, .unset, .unset, .unset, .unset, .unset, .unset, .unset, .unset, .unset, .unset, .unset, .unset] [(.int v1)])) _
        exact k_)
    by_cases c55_23 : v1 = (0 : Int32)
    · have pre24 : ∀ t_, Steps p.tables e below (s₁.setTop (mkF m 63 #[.val (.int p0), .val (.int p1), .val (.long q2), .second, .val (.long q3), .second, .val (.long q4), .second, .val (.long q5), .second, .val (.int v1), .val (.int v6), .val (.int v11), .val (.int v16), .unset, .unset, .unset, .unset, .unset, .unset, .unset, .unset, .unset, .unset, .unset, .unset, .unset] [(.int (0 : Int32))])) t_ → Steps p.tables e below (s₁.setTop (entryFrame m #[(.int p0), (.int p1), (.long q2), (.long q3), (.long q4), (.long q5)] maxLocals)) t_ := fun t_ k_ => pre22 t_ (by
          refine XS.ifYes X0.here hx rfl (pc0 := 55) (pc' := 62) rfl (hb hby at_55) rfl ((if0 _ _).trans (teq c55_23).1) (by decide) (by decide) ?_
          show Steps p.tables e below (s₁.setTop (mkF m 62 #[.val (.int p0), .val (.int p1), .val (.long q2), .second, .val (.long q3), .second, .val (.long q4), .second, .val (.long q5), .second, .val (.int v1), .val (.int v6), .val (.int v11), .val (.int v16), .unset, .unset, .unset, .unset, .unset, .unset, .unset, .unset, .unset, .unset, .unset, .unset, .unset] [])) _
          refine XS.iconst X0.here hx rfl (hb hby at_62) ?_
          show Steps p.tables e below (s₁.setTop (mkF m 63 #[.val (.int p0), .val (.int p1), .val (.long q2), .second, .val (.long q3), .second, .val (.long q4), .second, .val (.long q5), .second, .val (.int v1), .val (.int v6), .val (.int v11), .val (.int v16), .unset, .unset, .unset, .unset, .unset, .unset, .unset, .unset, .unset, .unset, .unset, .unset, .unset] [(.int (0 : Int32))])) _
          exact k_)
      exact ⟨(0 : Int32), c55_23.symm, pre24⟩
    · have pre25 : ∀ t_, Steps p.tables e below (s₁.setTop (mkF m 63 #[.val (.int p0), .val (.int p1), .val (.long q2), .second, .val (.long q3), .second, .val (.long q4), .second, .val (.long q5), .second, .val (.int v1), .val (.int v6), .val (.int v11), .val (.int v16), .unset, .unset, .unset, .unset, .unset, .unset, .unset, .unset, .unset, .unset, .unset, .unset, .unset] [(.int (1 : Int32))])) t_ → Steps p.tables e below (s₁.setTop (entryFrame m #[(.int p0), (.int p1), (.long q2), (.long q3), (.long q4), (.long q5)] maxLocals)) t_ := fun t_ k_ => pre22 t_ (by
          refine XS.ifNo X0.here hx rfl (hb hby at_55) rfl ((if0 _ _).trans (feq c55_23).1) ?_
          show Steps p.tables e below (s₁.setTop (mkF m 58 #[.val (.int p0), .val (.int p1), .val (.long q2), .second, .val (.long q3), .second, .val (.long q4), .second, .val (.long q5), .second, .val (.int v1), .val (.int v6), .val (.int v11), .val (.int v16), .unset, .unset, .unset, .unset, .unset, .unset, .unset, .unset, .unset, .unset, .unset, .unset, .unset] [])) _
          refine XS.iconst X0.here hx rfl (hb hby at_58) ?_
          show Steps p.tables e below (s₁.setTop (mkF m 59 #[.val (.int p0), .val (.int p1), .val (.long q2), .second, .val (.long q3), .second, .val (.long q4), .second, .val (.long q5), .second, .val (.int v1), .val (.int v6), .val (.int v11), .val (.int v16), .unset, .unset, .unset, .unset, .unset, .unset, .unset, .unset, .unset, .unset, .unset, .unset, .unset] [(.int (1 : Int32))])) _
          refine XS.goto X0.here hx rfl (pc0 := 59) (pc' := 63) rfl (hb hby at_59) (by decide) (by decide) ?_
          show Steps p.tables e below (s₁.setTop (mkF m 63 #[.val (.int p0), .val (.int p1), .val (.long q2), .second, .val (.long q3), .second, .val (.long q4), .second, .val (.long q5), .second, .val (.int v1), .val (.int v6), .val (.int v11), .val (.int v16), .unset, .unset, .unset, .unset, .unset, .unset, .unset, .unset, .unset, .unset, .unset, .unset, .unset] [(.int (1 : Int32))])) _
          exact k_)
      exact ⟨(1 : Int32), (hv1.resolve_left c55_23).symm, pre25⟩
  obtain ⟨w26, hv26, pre26⟩ : ∃ (w26 : Int32), (w26 = v6) ∧ ∀ t_, Steps p.tables e below (s₁.setTop (mkF m 73 #[.val (.int p0), .val (.int p1), .val (.long q2), .second, .val (.long q3), .second, .val (.long q4), .second, .val (.long q5), .second, .val (.int v1), .val (.int v6), .val (.int v11), .val (.int v16), .unset, .unset, .unset, .unset, .unset, .unset, .unset, .unset, .unset, .unset, .unset, .unset, .unset] [(.int w26), (.int w21)])) t_ → Steps p.tables e below (s₁.setTop (entryFrame m #[(.int p0), (.int p1), (.long q2), (.long q3), (.long q4), (.long q5)] maxLocals)) t_ := by
    have pre27 : ∀ t_, Steps p.tables e below (s₁.setTop (mkF m 65 #[.val (.int p0), .val (.int p1), .val (.long q2), .second, .val (.long q3), .second, .val (.long q4), .second, .val (.long q5), .second, .val (.int v1), .val (.int v6), .val (.int v11), .val (.int v16), .unset, .unset, .unset, .unset, .unset, .unset, .unset, .unset, .unset, .unset, .unset, .unset, .unset] [(.int v6), (.int w21)])) t_ → Steps p.tables e below (s₁.setTop (entryFrame m #[(.int p0), (.int p1), (.long q2), (.long q3), (.long q4), (.long q5)] maxLocals)) t_ := fun t_ k_ => pre21 t_ (by
        refine XS.iload X0.here hx rfl (hb hby at_63) rfl ?_
        show Steps p.tables e below (s₁.setTop (mkF m 65 #[.val (.int p0), .val (.int p1), .val (.long q2), .second, .val (.long q3), .second, .val (.long q4), .second, .val (.long q5), .second, .val (.int v1), .val (.int v6), .val (.int v11), .val (.int v16), .unset, .unset, .unset, .unset, .unset, .unset, .unset, .unset, .unset, .unset, .unset, .unset, .unset] [(.int v6), (.int w21)])) _
        exact k_)
    by_cases c65_28 : v6 = (0 : Int32)
    · have pre29 : ∀ t_, Steps p.tables e below (s₁.setTop (mkF m 73 #[.val (.int p0), .val (.int p1), .val (.long q2), .second, .val (.long q3), .second, .val (.long q4), .second, .val (.long q5), .second, .val (.int v1), .val (.int v6), .val (.int v11), .val (.int v16), .unset, .unset, .unset, .unset, .unset, .unset, .unset, .unset, .unset, .unset, .unset, .unset, .unset] [(.int (0 : Int32)), (.int w21)])) t_ → Steps p.tables e below (s₁.setTop (entryFrame m #[(.int p0), (.int p1), (.long q2), (.long q3), (.long q4), (.long q5)] maxLocals)) t_ := fun t_ k_ => pre27 t_ (by
          refine XS.ifYes X0.here hx rfl (pc0 := 65) (pc' := 72) rfl (hb hby at_65) rfl ((if0 _ _).trans (teq c65_28).1) (by decide) (by decide) ?_
          show Steps p.tables e below (s₁.setTop (mkF m 72 #[.val (.int p0), .val (.int p1), .val (.long q2), .second, .val (.long q3), .second, .val (.long q4), .second, .val (.long q5), .second, .val (.int v1), .val (.int v6), .val (.int v11), .val (.int v16), .unset, .unset, .unset, .unset, .unset, .unset, .unset, .unset, .unset, .unset, .unset, .unset, .unset] [(.int w21)])) _
          refine XS.iconst X0.here hx rfl (hb hby at_72) ?_
          show Steps p.tables e below (s₁.setTop (mkF m 73 #[.val (.int p0), .val (.int p1), .val (.long q2), .second, .val (.long q3), .second, .val (.long q4), .second, .val (.long q5), .second, .val (.int v1), .val (.int v6), .val (.int v11), .val (.int v16), .unset, .unset, .unset, .unset, .unset, .unset, .unset, .unset, .unset, .unset, .unset, .unset, .unset] [(.int (0 : Int32)), (.int w21)])) _
          exact k_)
      exact ⟨(0 : Int32), c65_28.symm, pre29⟩
    · have pre30 : ∀ t_, Steps p.tables e below (s₁.setTop (mkF m 73 #[.val (.int p0), .val (.int p1), .val (.long q2), .second, .val (.long q3), .second, .val (.long q4), .second, .val (.long q5), .second, .val (.int v1), .val (.int v6), .val (.int v11), .val (.int v16), .unset, .unset, .unset, .unset, .unset, .unset, .unset, .unset, .unset, .unset, .unset, .unset, .unset] [(.int (1 : Int32)), (.int w21)])) t_ → Steps p.tables e below (s₁.setTop (entryFrame m #[(.int p0), (.int p1), (.long q2), (.long q3), (.long q4), (.long q5)] maxLocals)) t_ := fun t_ k_ => pre27 t_ (by
          refine XS.ifNo X0.here hx rfl (hb hby at_65) rfl ((if0 _ _).trans (feq c65_28).1) ?_
          show Steps p.tables e below (s₁.setTop (mkF m 68 #[.val (.int p0), .val (.int p1), .val (.long q2), .second, .val (.long q3), .second, .val (.long q4), .second, .val (.long q5), .second, .val (.int v1), .val (.int v6), .val (.int v11), .val (.int v16), .unset, .unset, .unset, .unset, .unset, .unset, .unset, .unset, .unset, .unset, .unset, .unset, .unset] [(.int w21)])) _
          refine XS.iconst X0.here hx rfl (hb hby at_68) ?_
          show Steps p.tables e below (s₁.setTop (mkF m 69 #[.val (.int p0), .val (.int p1), .val (.long q2), .second, .val (.long q3), .second, .val (.long q4), .second, .val (.long q5), .second, .val (.int v1), .val (.int v6), .val (.int v11), .val (.int v16), .unset, .unset, .unset, .unset, .unset, .unset, .unset, .unset, .unset, .unset, .unset, .unset, .unset] [(.int (1 : Int32)), (.int w21)])) _
          refine XS.goto X0.here hx rfl (pc0 := 69) (pc' := 73) rfl (hb hby at_69) (by decide) (by decide) ?_
          show Steps p.tables e below (s₁.setTop (mkF m 73 #[.val (.int p0), .val (.int p1), .val (.long q2), .second, .val (.long q3), .second, .val (.long q4), .second, .val (.long q5), .second, .val (.int v1), .val (.int v6), .val (.int v11), .val (.int v16), .unset, .unset, .unset, .unset, .unset, .unset, .unset, .unset, .unset, .unset, .unset, .unset, .unset] [(.int (1 : Int32)), (.int w21)])) _
          exact k_)
      exact ⟨(1 : Int32), (hv6.resolve_left c65_28).symm, pre30⟩
  obtain ⟨w31, hv31, pre31⟩ : ∃ (w31 : Int32), (w31 = v11) ∧ ∀ t_, Steps p.tables e below (s₁.setTop (mkF m 84 #[.val (.int p0), .val (.int p1), .val (.long q2), .second, .val (.long q3), .second, .val (.long q4), .second, .val (.long q5), .second, .val (.int v1), .val (.int v6), .val (.int v11), .val (.int v16), .unset, .unset, .unset, .unset, .unset, .unset, .unset, .unset, .unset, .unset, .unset, .unset, .unset] [(.int w31), (.int (w21 + w26))])) t_ → Steps p.tables e below (s₁.setTop (entryFrame m #[(.int p0), (.int p1), (.long q2), (.long q3), (.long q4), (.long q5)] maxLocals)) t_ := by
    have pre32 : ∀ t_, Steps p.tables e below (s₁.setTop (mkF m 76 #[.val (.int p0), .val (.int p1), .val (.long q2), .second, .val (.long q3), .second, .val (.long q4), .second, .val (.long q5), .second, .val (.int v1), .val (.int v6), .val (.int v11), .val (.int v16), .unset, .unset, .unset, .unset, .unset, .unset, .unset, .unset, .unset, .unset, .unset, .unset, .unset] [(.int v11), (.int (w21 + w26))])) t_ → Steps p.tables e below (s₁.setTop (entryFrame m #[(.int p0), (.int p1), (.long q2), (.long q3), (.long q4), (.long q5)] maxLocals)) t_ := fun t_ k_ => pre26 t_ (by
        refine XS.iadd X0.here hx rfl (hb hby at_73) rfl ?_
        show Steps p.tables e below (s₁.setTop (mkF m 74 #[.val (.int p0), .val (.int p1), .val (.long q2), .second, .val (.long q3), .second, .val (.long q4), .second, .val (.long q5), .second, .val (.int v1), .val (.int v6), .val (.int v11), .val (.int v16), .unset, .unset, .unset, .unset, .unset, .unset, .unset, .unset, .unset, .unset, .unset, .unset, .unset] [(.int (w21 + w26))])) _
        refine XS.iload X0.here hx rfl (hb hby at_74) rfl ?_
        show Steps p.tables e below (s₁.setTop (mkF m 76 #[.val (.int p0), .val (.int p1), .val (.long q2), .second, .val (.long q3), .second, .val (.long q4), .second, .val (.long q5), .second, .val (.int v1), .val (.int v6), .val (.int v11), .val (.int v16), .unset, .unset, .unset, .unset, .unset, .unset, .unset, .unset, .unset, .unset, .unset, .unset, .unset] [(.int v11), (.int (w21 + w26))])) _
        exact k_)
    by_cases c76_33 : v11 = (0 : Int32)
    · have pre34 : ∀ t_, Steps p.tables e below (s₁.setTop (mkF m 84 #[.val (.int p0), .val (.int p1), .val (.long q2), .second, .val (.long q3), .second, .val (.long q4), .second, .val (.long q5), .second, .val (.int v1), .val (.int v6), .val (.int v11), .val (.int v16), .unset, .unset, .unset, .unset, .unset, .unset, .unset, .unset, .unset, .unset, .unset, .unset, .unset] [(.int (0 : Int32)), (.int (w21 + w26))])) t_ → Steps p.tables e below (s₁.setTop (entryFrame m #[(.int p0), (.int p1), (.long q2), (.long q3), (.long q4), (.long q5)] maxLocals)) t_ := fun t_ k_ => pre32 t_ (by
          refine XS.ifYes X0.here hx rfl (pc0 := 76) (pc' := 83) rfl (hb hby at_76) rfl ((if0 _ _).trans (teq c76_33).1) (by decide) (by decide) ?_
          show Steps p.tables e below (s₁.setTop (mkF m 83 #[.val (.int p0), .val (.int p1), .val (.long q2), .second, .val (.long q3), .second, .val (.long q4), .second, .val (.long q5), .second, .val (.int v1), .val (.int v6), .val (.int v11), .val (.int v16), .unset, .unset, .unset, .unset, .unset, .unset, .unset, .unset, .unset, .unset, .unset, .unset, .unset] [(.int (w21 + w26))])) _
          refine XS.iconst X0.here hx rfl (hb hby at_83) ?_
          show Steps p.tables e below (s₁.setTop (mkF m 84 #[.val (.int p0), .val (.int p1), .val (.long q2), .second, .val (.long q3), .second, .val (.long q4), .second, .val (.long q5), .second, .val (.int v1), .val (.int v6), .val (.int v11), .val (.int v16), .unset, .unset, .unset, .unset, .unset, .unset, .unset, .unset, .unset, .unset, .unset, .unset, .unset] [(.int (0 : Int32)), (.int (w21 + w26))])) _
          exact k_)
      exact ⟨(0 : Int32), c76_33.symm, pre34⟩
    · have pre35 : ∀ t_, Steps p.tables e below (s₁.setTop (mkF m 84 #[.val (.int p0), .val (.int p1), .val (.long q2), .second, .val (.long q3), .second, .val (.long q4), .second, .val (.long q5), .second, .val (.int v1), .val (.int v6), .val (.int v11), .val (.int v16), .unset, .unset, .unset, .unset, .unset, .unset, .unset, .unset, .unset, .unset, .unset, .unset, .unset] [(.int (1 : Int32)), (.int (w21 + w26))])) t_ → Steps p.tables e below (s₁.setTop (entryFrame m #[(.int p0), (.int p1), (.long q2), (.long q3), (.long q4), (.long q5)] maxLocals)) t_ := fun t_ k_ => pre32 t_ (by
          refine XS.ifNo X0.here hx rfl (hb hby at_76) rfl ((if0 _ _).trans (feq c76_33).1) ?_
          show Steps p.tables e below (s₁.setTop (mkF m 79 #[.val (.int p0), .val (.int p1), .val (.long q2), .second, .val (.long q3), .second, .val (.long q4), .second, .val (.long q5), .second, .val (.int v1), .val (.int v6), .val (.int v11), .val (.int v16), .unset, .unset, .unset, .unset, .unset, .unset, .unset, .unset, .unset, .unset, .unset, .unset, .unset] [(.int (w21 + w26))])) _
          refine XS.iconst X0.here hx rfl (hb hby at_79) ?_
          show Steps p.tables e below (s₁.setTop (mkF m 80 #[.val (.int p0), .val (.int p1), .val (.long q2), .second, .val (.long q3), .second, .val (.long q4), .second, .val (.long q5), .second, .val (.int v1), .val (.int v6), .val (.int v11), .val (.int v16), .unset, .unset, .unset, .unset, .unset, .unset, .unset, .unset, .unset, .unset, .unset, .unset, .unset] [(.int (1 : Int32)), (.int (w21 + w26))])) _
          refine XS.goto X0.here hx rfl (pc0 := 80) (pc' := 84) rfl (hb hby at_80) (by decide) (by decide) ?_
          show Steps p.tables e below (s₁.setTop (mkF m 84 #[.val (.int p0), .val (.int p1), .val (.long q2), .second, .val (.long q3), .second, .val (.long q4), .second, .val (.long q5), .second, .val (.int v1), .val (.int v6), .val (.int v11), .val (.int v16), .unset, .unset, .unset, .unset, .unset, .unset, .unset, .unset, .unset, .unset, .unset, .unset, .unset] [(.int (1 : Int32)), (.int (w21 + w26))])) _
          exact k_)
      exact ⟨(1 : Int32), (hv11.resolve_left c76_33).symm, pre35⟩
  obtain ⟨w36, hv36, pre36⟩ : ∃ (w36 : Int32), (w36 = v16) ∧ ∀ t_, Steps p.tables e below (s₁.setTop (mkF m 95 #[.val (.int p0), .val (.int p1), .val (.long q2), .second, .val (.long q3), .second, .val (.long q4), .second, .val (.long q5), .second, .val (.int v1), .val (.int v6), .val (.int v11), .val (.int v16), .unset, .unset, .unset, .unset, .unset, .unset, .unset, .unset, .unset, .unset, .unset, .unset, .unset] [(.int w36), (.int ((w21 + w26) + w31))])) t_ → Steps p.tables e below (s₁.setTop (entryFrame m #[(.int p0), (.int p1), (.long q2), (.long q3), (.long q4), (.long q5)] maxLocals)) t_ := by
    have pre37 : ∀ t_, Steps p.tables e below (s₁.setTop (mkF m 87 #[.val (.int p0), .val (.int p1), .val (.long q2), .second, .val (.long q3), .second, .val (.long q4), .second, .val (.long q5), .second, .val (.int v1), .val (.int v6), .val (.int v11), .val (.int v16), .unset, .unset, .unset, .unset, .unset, .unset, .unset, .unset, .unset, .unset, .unset, .unset, .unset] [(.int v16), (.int ((w21 + w26) + w31))])) t_ → Steps p.tables e below (s₁.setTop (entryFrame m #[(.int p0), (.int p1), (.long q2), (.long q3), (.long q4), (.long q5)] maxLocals)) t_ := fun t_ k_ => pre31 t_ (by
        refine XS.iadd X0.here hx rfl (hb hby at_84) rfl ?_
        show Steps p.tables e below (s₁.setTop (mkF m 85 #[.val (.int p0), .val (.int p1), .val (.long q2), .second, .val (.long q3), .second, .val (.long q4), .second, .val (.long q5), .second, .val (.int v1), .val (.int v6), .val (.int v11), .val (.int v16), .unset, .unset, .unset, .unset, .unset, .unset, .unset, .unset, .unset, .unset, .unset, .unset, .unset] [(.int ((w21 + w26) + w31))])) _
        refine XS.iload X0.here hx rfl (hb hby at_85) rfl ?_
        show Steps p.tables e below (s₁.setTop (mkF m 87 #[.val (.int p0), .val (.int p1), .val (.long q2), .second, .val (.long q3), .second, .val (.long q4), .second, .val (.long q5), .second, .val (.int v1), .val (.int v6), .val (.int v11), .val (.int v16), .unset, .unset, .unset, .unset, .unset, .unset, .unset, .unset, .unset, .unset, .unset, .unset, .unset] [(.int v16), (.int ((w21 + w26) + w31))])) _
        exact k_)
    by_cases c87_38 : v16 = (0 : Int32)
    · have pre39 : ∀ t_, Steps p.tables e below (s₁.setTop (mkF m 95 #[.val (.int p0), .val (.int p1), .val (.long q2), .second, .val (.long q3), .second, .val (.long q4), .second, .val (.long q5), .second, .val (.int v1), .val (.int v6), .val (.int v11), .val (.int v16), .unset, .unset, .unset, .unset, .unset, .unset, .unset, .unset, .unset, .unset, .unset, .unset, .unset] [(.int (0 : Int32)), (.int ((w21 + w26) + w31))])) t_ → Steps p.tables e below (s₁.setTop (entryFrame m #[(.int p0), (.int p1), (.long q2), (.long q3), (.long q4), (.long q5)] maxLocals)) t_ := fun t_ k_ => pre37 t_ (by
          refine XS.ifYes X0.here hx rfl (pc0 := 87) (pc' := 94) rfl (hb hby at_87) rfl ((if0 _ _).trans (teq c87_38).1) (by decide) (by decide) ?_
          show Steps p.tables e below (s₁.setTop (mkF m 94 #[.val (.int p0), .val (.int p1), .val (.long q2), .second, .val (.long q3), .second, .val (.long q4), .second, .val (.long q5), .second, .val (.int v1), .val (.int v6), .val (.int v11), .val (.int v16), .unset, .unset, .unset, .unset, .unset, .unset, .unset, .unset, .unset, .unset, .unset, .unset, .unset] [(.int ((w21 + w26) + w31))])) _
          refine XS.iconst X0.here hx rfl (hb hby at_94) ?_
          show Steps p.tables e below (s₁.setTop (mkF m 95 #[.val (.int p0), .val (.int p1), .val (.long q2), .second, .val (.long q3), .second, .val (.long q4), .second, .val (.long q5), .second, .val (.int v1), .val (.int v6), .val (.int v11), .val (.int v16), .unset, .unset, .unset, .unset, .unset, .unset, .unset, .unset, .unset, .unset, .unset, .unset, .unset] [(.int (0 : Int32)), (.int ((w21 + w26) + w31))])) _
          exact k_)
      exact ⟨(0 : Int32), c87_38.symm, pre39⟩
    · have pre40 : ∀ t_, Steps p.tables e below (s₁.setTop (mkF m 95 #[.val (.int p0), .val (.int p1), .val (.long q2), .second, .val (.long q3), .second, .val (.long q4), .second, .val (.long q5), .second, .val (.int v1), .val (.int v6), .val (.int v11), .val (.int v16), .unset, .unset, .unset, .unset, .unset, .unset, .unset, .unset, .unset, .unset, .unset, .unset, .unset] [(.int (1 : Int32)), (.int ((w21 + w26) + w31))])) t_ → Steps p.tables e below (s₁.setTop (entryFrame m #[(.int p0), (.int p1), (.long q2), (.long q3), (.long q4), (.long q5)] maxLocals)) t_ := fun t_ k_ => pre37 t_ (by
          refine XS.ifNo X0.here hx rfl (hb hby at_87) rfl ((if0 _ _).trans (feq c87_38).1) ?_
          show Steps p.tables e below (s₁.setTop (mkF m 90 #[.val (.int p0), .val (.int p1), .val (.long q2), .second, .val (.long q3), .second, .val (.long q4), .second, .val (.long q5), .second, .val (.int v1), .val (.int v6), .val (.int v11), .val (.int v16), .unset, .unset, .unset, .unset, .unset, .unset, .unset, .unset, .unset, .unset, .unset, .unset, .unset] [(.int ((w21 + w26) + w31))])) _
          refine XS.iconst X0.here hx rfl (hb hby at_90) ?_
          show Steps p.tables e below (s₁.setTop (mkF m 91 #[.val (.int p0), .val (.int p1), .val (.long q2), .second, .val (.long q3), .second, .val (.long q4), .second, .val (.long q5), .second, .val (.int v1), .val (.int v6), .val (.int v11), .val (.int v16), .unset, .unset, .unset, .unset, .unset, .unset, .unset, .unset, .unset, .unset, .unset, .unset, .unset] [(.int (1 : Int32)), (.int ((w21 + w26) + w31))])) _
          refine XS.goto X0.here hx rfl (pc0 := 91) (pc' := 95) rfl (hb hby at_91) (by decide) (by decide) ?_
          show Steps p.tables e below (s₁.setTop (mkF m 95 #[.val (.int p0), .val (.int p1), .val (.long q2), .second, .val (.long q3), .second, .val (.long q4), .second, .val (.long q5), .second, .val (.int v1), .val (.int v6), .val (.int v11), .val (.int v16), .unset, .unset, .unset, .unset, .unset, .unset, .unset, .unset, .unset, .unset, .unset, .unset, .unset] [(.int (1 : Int32)), (.int ((w21 + w26) + w31))])) _
          exact k_)
      exact ⟨(1 : Int32), (hv16.resolve_left c87_38).symm, pre40⟩
  have pre41 : ∀ t_, Steps p.tables e below (s₁.setTop (mkF m 98 #[.val (.int p0), .val (.int p1), .val (.long q2), .second, .val (.long q3), .second, .val (.long q4), .second, .val (.long q5), .second, .val (.int v1), .val (.int v6), .val (.int v11), .val (.int v16), .val (.int (((w21 + w26) + w31) + w36)), .unset, .unset, .unset, .unset, .unset, .unset, .unset, .unset, .unset, .unset, .unset, .unset] [])) t_ → Steps p.tables e below (s₁.setTop (entryFrame m #[(.int p0), (.int p1), (.long q2), (.long q3), (.long q4), (.long q5)] maxLocals)) t_ := fun t_ k_ => pre36 t_ (by
      refine XS.iadd X0.here hx rfl (hb hby at_95) rfl ?_
      show Steps p.tables e below (s₁.setTop (mkF m 96 #[.val (.int p0), .val (.int p1), .val (.long q2), .second, .val (.long q3), .second, .val (.long q4), .second, .val (.long q5), .second, .val (.int v1), .val (.int v6), .val (.int v11), .val (.int v16), .unset, .unset, .unset, .unset, .unset, .unset, .unset, .unset, .unset, .unset, .unset, .unset, .unset] [(.int (((w21 + w26) + w31) + w36))])) _
      refine XS.istore X0.here hx rfl (hb hby at_96) rfl (l' := #[.val (.int p0), .val (.int p1), .val (.long q2), .second, .val (.long q3), .second, .val (.long q4), .second, .val (.long q5), .second, .val (.int v1), .val (.int v6), .val (.int v11), .val (.int v16), .val (.int (((w21 + w26) + w31) + w36)), .unset, .unset, .unset, .unset, .unset, .unset, .unset, .unset, .unset, .unset, .unset, .unset]) rfl ?_
      show Steps p.tables e below (s₁.setTop (mkF m 98 #[.val (.int p0), .val (.int p1), .val (.long q2), .second, .val (.long q3), .second, .val (.long q4), .second, .val (.long q5), .second, .val (.int v1), .val (.int v6), .val (.int v11), .val (.int v16), .val (.int (((w21 + w26) + w31) + w36)), .unset, .unset, .unset, .unset, .unset, .unset, .unset, .unset, .unset, .unset, .unset, .unset] [])) _
      exact k_)
  obtain ⟨kk, e_kk⟩ : ∃ z : Int32, z = (((w21 + w26) + w31) + w36) := ⟨_, rfl⟩
  have pre42 : ∀ t_, Steps p.tables e below (s₁.setTop (mkF m 98 #[.val (.int p0), .val (.int p1), .val (.long q2), .second, .val (.long q3), .second, .val (.long q4), .second, .val (.long q5), .second, .val (.int v1), .val (.int v6), .val (.int v11), .val (.int v16), .val (.int kk), .unset, .unset, .unset, .unset, .unset, .unset, .unset, .unset, .unset, .unset, .unset, .unset] [])) t_ → Steps p.tables e below (s₁.setTop (entryFrame m #[(.int p0), (.int p1), (.long q2), (.long q3), (.long q4), (.long q5)] maxLocals)) t_ := by subst e_kk; exact pre41
  obtain ⟨kn, ekn⟩ : ∃ z : Nat, z = (own_l v1 0).length + (own_l v6 1).length + (own_l v11 2).length + (own_l v16 3).length := ⟨_, rfl⟩
  have hl : (own_l v1 0).length ≤ 1 ∧ (own_l v6 1).length ≤ 1 ∧ (own_l v11 2).length ≤ 1 ∧ (own_l v16 3).length ≤ 1 := ⟨own_le _ _, own_le _ _, own_le _ _, own_le _ _⟩
  have hk4 : kn ≤ 4 := by omega
  have hkn : kk.toInt = (kn : Int) := by
    rw [e_kk, hv21, hv26, hv31, hv36, ekn]
    have q0 := own_ln (z := 0) hv1
    have q1 := own_ln (z := 1) hv6
    have q2 := own_ln (z := 2) hv11
    have q3 := own_ln (z := 3) hv16
    exact own_sum4 q0 q1 q2 q3 hl.1 hl.2.1 hl.2.2.1 hl.2.2.2
  obtain ⟨T43, h43, X43, e43, E43, A43, st43⟩ := oNew X0 hx hZ (hw _ (List.mem_of_getElem? (i := 0) rfl)) e0 (g := (mkF m 100 #[.val (.int p0), .val (.int p1), .val (.long q2), .second, .val (.long q3), .second, .val (.long q4), .second, .val (.long q5), .second, .val (.int v1), .val (.int v6), .val (.int v11), .val (.int v16), .val (.int kk), .unset, .unset, .unset, .unset, .unset, .unset, .unset, .unset, .unset, .unset, .unset, .unset] [(.int kk)])) rfl (hb hby at_100) rfl (k := kn) (cap := 4) hkn (by omega) (by decide) (by decide) (by decide)
  obtain ⟨tg, g43⟩ : ∃ z, z = h0.size := ⟨_, rfl⟩
  rw [← g43] at A43 st43
  have gg43 : n0 ≤ tg := Nat.le_trans Z0 (Nat.le_of_eq g43.symm)
  have Z43 : n0 ≤ h43.size := Nat.le_trans Z0 E43.1
  have B43 : OArr Z h43 tg .int kn (fun _ => .int (0 : Int32)) := A43
  have pre44 : ∀ t_, Steps p.tables e below (T43.setTop (mkF m 107 #[.val (.int p0), .val (.int p1), .val (.long q2), .second, .val (.long q3), .second, .val (.long q4), .second, .val (.long q5), .second, .val (.int v1), .val (.int v6), .val (.int v11), .val (.int v16), .val (.int kk), .val (.ref tg), .val (.int (0 : Int32)), .unset, .unset, .unset, .unset, .unset, .unset, .unset, .unset, .unset, .unset] [])) t_ → Steps p.tables e below (s₁.setTop (entryFrame m #[(.int p0), (.int p1), (.long q2), (.long q3), (.long q4), (.long q5)] maxLocals)) t_ := fun t_ k_ => pre42 t_ (by
      refine XS.iload X0.here hx rfl (hb hby at_98) rfl ?_
      show Steps p.tables e below (s₁.setTop (mkF m 100 #[.val (.int p0), .val (.int p1), .val (.long q2), .second, .val (.long q3), .second, .val (.long q4), .second, .val (.long q5), .second, .val (.int v1), .val (.int v6), .val (.int v11), .val (.int v16), .val (.int kk), .unset, .unset, .unset, .unset, .unset, .unset, .unset, .unset, .unset, .unset, .unset, .unset] [(.int kk)])) _
      refine st43 _ ?_
      show Steps p.tables e below (T43.setTop (mkF m 102 #[.val (.int p0), .val (.int p1), .val (.long q2), .second, .val (.long q3), .second, .val (.long q4), .second, .val (.long q5), .second, .val (.int v1), .val (.int v6), .val (.int v11), .val (.int v16), .val (.int kk), .unset, .unset, .unset, .unset, .unset, .unset, .unset, .unset, .unset, .unset, .unset, .unset] [(.ref tg)])) _
      refine XS.astore X43.here hx rfl (hb hby at_102) rfl rfl (l' := #[.val (.int p0), .val (.int p1), .val (.long q2), .second, .val (.long q3), .second, .val (.long q4), .second, .val (.long q5), .second, .val (.int v1), .val (.int v6), .val (.int v11), .val (.int v16), .val (.int kk), .val (.ref tg), .unset, .unset, .unset, .unset, .unset, .unset, .unset, .unset, .unset, .unset, .unset]) rfl ?_
      show Steps p.tables e below (T43.setTop (mkF m 104 #[.val (.int p0), .val (.int p1), .val (.long q2), .second, .val (.long q3), .second, .val (.long q4), .second, .val (.long q5), .second, .val (.int v1), .val (.int v6), .val (.int v11), .val (.int v16), .val (.int kk), .val (.ref tg), .unset, .unset, .unset, .unset, .unset, .unset, .unset, .unset, .unset, .unset, .unset] [])) _
      refine XS.iconst X43.here hx rfl (hb hby at_104) ?_
      show Steps p.tables e below (T43.setTop (mkF m 105 #[.val (.int p0), .val (.int p1), .val (.long q2), .second, .val (.long q3), .second, .val (.long q4), .second, .val (.long q5), .second, .val (.int v1), .val (.int v6), .val (.int v11), .val (.int v16), .val (.int kk), .val (.ref tg), .unset, .unset, .unset, .unset, .unset, .unset, .unset, .unset, .unset, .unset, .unset] [(.int (0 : Int32))])) _
      refine XS.istore X43.here hx rfl (hb hby at_105) rfl (l' := #[.val (.int p0), .val (.int p1), .val (.long q2), .second, .val (.long q3), .second, .val (.long q4), .second, .val (.long q5), .second, .val (.int v1), .val (.int v6), .val (.int v11), .val (.int v16), .val (.int kk), .val (.ref tg), .val (.int (0 : Int32)), .unset, .unset, .unset, .unset, .unset, .unset, .unset, .unset, .unset, .unset]) rfl ?_
      show Steps p.tables e below (T43.setTop (mkF m 107 #[.val (.int p0), .val (.int p1), .val (.long q2), .second, .val (.long q3), .second, .val (.long q4), .second, .val (.long q5), .second, .val (.int v1), .val (.int v6), .val (.int v11), .val (.int v16), .val (.int kk), .val (.ref tg), .val (.int (0 : Int32)), .unset, .unset, .unset, .unset, .unset, .unset, .unset, .unset, .unset, .unset] [])) _
      exact k_)
  obtain ⟨T45, h45, L45, pp45, G45, X45, e45, N45, Z45, f51, hv45, pre45⟩ : ∃ (T45 : State) (h45 : Heap) (L45 : List Loc) (pp45 : Int32) (G45 : Nat → Value), Stand p l e room_1 s m #[(.int p0), (.int p1), (.long q2), (.long q3), (.long q4), (.long q5)] below meth c T45 L45 1 4 ∧ T45.heap = h45 ∧ Fr n0 L45 ∧ n0 ≤ h45.size ∧ OArr Z h45 tg .int kn G45 ∧ (pp45.toInt = (((([] : List Int32) ++ own_l v1 0)).length : Int) ∧ own_T G45 (([] : List Int32) ++ own_l v1 0)) ∧ ∀ t_, Steps p.tables e below (T45.setTop (mkF m 121 #[.val (.int p0), .val (.int p1), .val (.long q2), .second, .val (.long q3), .second, .val (.long q4), .second, .val (.long q5), .second, .val (.int v1), .val (.int v6), .val (.int v11), .val (.int v16), .val (.int kk), .val (.ref tg), .val (.int pp45), .unset, .unset, .unset, .unset, .unset, .unset, .unset, .unset, .unset, .unset] [])) t_ → Steps p.tables e below (s₁.setTop (entryFrame m #[(.int p0), (.int p1), (.long q2), (.long q3), (.long q4), (.long q5)] maxLocals)) t_ := by
    have pre46 : ∀ t_, Steps p.tables e below (T43.setTop (mkF m 109 #[.val (.int p0), .val (.int p1), .val (.long q2), .second, .val (.long q3), .second, .val (.long q4), .second, .val (.long q5), .second, .val (.int v1), .val (.int v6), .val (.int v11), .val (.int v16), .val (.int kk), .val (.ref tg), .val (.int (0 : Int32)), .unset, .unset, .unset, .unset, .unset, .unset, .unset, .unset, .unset, .unset] [(.int v1)])) t_ → Steps p.tables e below (s₁.setTop (entryFrame m #[(.int p0), (.int p1), (.long q2), (.long q3), (.long q4), (.long q5)] maxLocals)) t_ := fun t_ k_ => pre44 t_ (by
        refine XS.iload X43.here hx rfl (hb hby at_107) rfl ?_
        show Steps p.tables e below (T43.setTop (mkF m 109 #[.val (.int p0), .val (.int p1), .val (.long q2), .second, .val (.long q3), .second, .val (.long q4), .second, .val (.long q5), .second, .val (.int v1), .val (.int v6), .val (.int v11), .val (.int v16), .val (.int kk), .val (.ref tg), .val (.int (0 : Int32)), .unset, .unset, .unset, .unset, .unset, .unset, .unset, .unset, .unset, .unset] [(.int v1)])) _
        exact k_)
    by_cases c109_47 : v1 = (0 : Int32)
    · have pre48 : ∀ t_, Steps p.tables e below (T43.setTop (mkF m 121 #[.val (.int p0), .val (.int p1), .val (.long q2), .second, .val (.long q3), .second, .val (.long q4), .second, .val (.long q5), .second, .val (.int v1), .val (.int v6), .val (.int v11), .val (.int v16), .val (.int kk), .val (.ref tg), .val (.int (0 : Int32)), .unset, .unset, .unset, .unset, .unset, .unset, .unset, .unset, .unset, .unset] [])) t_ → Steps p.tables e below (s₁.setTop (entryFrame m #[(.int p0), (.int p1), (.long q2), (.long q3), (.long q4), (.long q5)] maxLocals)) t_ := fun t_ k_ => pre46 t_ (by
          refine XS.ifYes X43.here hx rfl (pc0 := 109) (pc' := 121) rfl (hb hby at_109) rfl ((if0 _ _).trans (teq c109_47).1) (by decide) (by decide) ?_
          show Steps p.tables e below (T43.setTop (mkF m 121 #[.val (.int p0), .val (.int p1), .val (.long q2), .second, .val (.long q3), .second, .val (.long q4), .second, .val (.long q5), .second, .val (.int v1), .val (.int v6), .val (.int v11), .val (.int v16), .val (.int kk), .val (.ref tg), .val (.int (0 : Int32)), .unset, .unset, .unset, .unset, .unset, .unset, .unset, .unset, .unset, .unset] [])) _
          exact k_)
      exact ⟨T43, h43, _, (0 : Int32), (fun _ => .int (0 : Int32)), X43, e43, N0, Z43, B43, own_stay c109_47 (⟨rfl, fun _ h => nomatch h⟩ : (0 : Int32).toInt = ((([] : List Int32)).length : Int) ∧ own_T (fun _ => .int (0 : Int32)) ([] : List Int32)), pre48⟩
    · obtain ⟨T49, h49, X49, e49, W49, A49, st49⟩ := oStI X43 hx hZ e43 B43 (k := (([] : List Int32)).length) ((⟨rfl, fun _ h => nomatch h⟩ : (0 : Int32).toInt = ((([] : List Int32)).length : Int) ∧ own_T (fun _ => .int (0 : Int32)) ([] : List Int32))).1 (by have q := own_l1 (z := 0) c109_47; rw [ekn]; simp only [List.length_append, List.length_nil]; omega) (g := (mkF m 117 #[.val (.int p0), .val (.int p1), .val (.long q2), .second, .val (.long q3), .second, .val (.long q4), .second, .val (.long q5), .second, .val (.int v1), .val (.int v6), .val (.int v11), .val (.int v16), .val (.int kk), .val (.ref tg), .val (.int (0 : Int32)), .unset, .unset, .unset, .unset, .unset, .unset, .unset, .unset, .unset, .unset] [(.int (0 : Int32)), (.int (0 : Int32)), (.ref tg)])) rfl rfl (hb hby at_117)
      have N49 := Fr.snoc X49 N0 gg43
      have Z49 : n0 ≤ h49.size := Nat.le_trans Z43 (Keep.of_wr W49).1
      have pre50 : ∀ t_, Steps p.tables e below (T49.setTop (mkF m 121 #[.val (.int p0), .val (.int p1), .val (.long q2), .second, .val (.long q3), .second, .val (.long q4), .second, .val (.long q5), .second, .val (.int v1), .val (.int v6), .val (.int v11), .val (.int v16), .val (.int kk), .val (.ref tg), .val (.int ((0 : Int32) + (1 : Int32))), .unset, .unset, .unset, .unset, .unset, .unset, .unset, .unset, .unset, .unset] [])) t_ → Steps p.tables e below (s₁.setTop (entryFrame m #[(.int p0), (.int p1), (.long q2), (.long q3), (.long q4), (.long q5)] maxLocals)) t_ := fun t_ k_ => pre46 t_ (by
          refine XS.ifNo X43.here hx rfl (hb hby at_109) rfl ((if0 _ _).trans (feq c109_47).1) ?_
          show Steps p.tables e below (T43.setTop (mkF m 112 #[.val (.int p0), .val (.int p1), .val (.long q2), .second, .val (.long q3), .second, .val (.long q4), .second, .val (.long q5), .second, .val (.int v1), .val (.int v6), .val (.int v11), .val (.int v16), .val (.int kk), .val (.ref tg), .val (.int (0 : Int32)), .unset, .unset, .unset, .unset, .unset, .unset, .unset, .unset, .unset, .unset] [])) _
          refine XS.aload X43.here hx rfl (hb hby at_112) rfl rfl ?_
          show Steps p.tables e below (T43.setTop (mkF m 114 #[.val (.int p0), .val (.int p1), .val (.long q2), .second, .val (.long q3), .second, .val (.long q4), .second, .val (.long q5), .second, .val (.int v1), .val (.int v6), .val (.int v11), .val (.int v16), .val (.int kk), .val (.ref tg), .val (.int (0 : Int32)), .unset, .unset, .unset, .unset, .unset, .unset, .unset, .unset, .unset, .unset] [(.ref tg)])) _
          refine XS.iload X43.here hx rfl (hb hby at_114) rfl ?_
          show Steps p.tables e below (T43.setTop (mkF m 116 #[.val (.int p0), .val (.int p1), .val (.long q2), .second, .val (.long q3), .second, .val (.long q4), .second, .val (.long q5), .second, .val (.int v1), .val (.int v6), .val (.int v11), .val (.int v16), .val (.int kk), .val (.ref tg), .val (.int (0 : Int32)), .unset, .unset, .unset, .unset, .unset, .unset, .unset, .unset, .unset, .unset] [(.int (0 : Int32)), (.ref tg)])) _
          refine XS.iconst X43.here hx rfl (hb hby at_116) ?_
          show Steps p.tables e below (T43.setTop (mkF m 117 #[.val (.int p0), .val (.int p1), .val (.long q2), .second, .val (.long q3), .second, .val (.long q4), .second, .val (.long q5), .second, .val (.int v1), .val (.int v6), .val (.int v11), .val (.int v16), .val (.int kk), .val (.ref tg), .val (.int (0 : Int32)), .unset, .unset, .unset, .unset, .unset, .unset, .unset, .unset, .unset, .unset] [(.int (0 : Int32)), (.int (0 : Int32)), (.ref tg)])) _
          refine st49 _ ?_
          show Steps p.tables e below (T49.setTop (mkF m 118 #[.val (.int p0), .val (.int p1), .val (.long q2), .second, .val (.long q3), .second, .val (.long q4), .second, .val (.long q5), .second, .val (.int v1), .val (.int v6), .val (.int v11), .val (.int v16), .val (.int kk), .val (.ref tg), .val (.int (0 : Int32)), .unset, .unset, .unset, .unset, .unset, .unset, .unset, .unset, .unset, .unset] [])) _
          refine XS.iinc X49.here hx rfl (hb hby at_118) rfl (l' := #[.val (.int p0), .val (.int p1), .val (.long q2), .second, .val (.long q3), .second, .val (.long q4), .second, .val (.long q5), .second, .val (.int v1), .val (.int v6), .val (.int v11), .val (.int v16), .val (.int kk), .val (.ref tg), .val (.int ((0 : Int32) + (1 : Int32))), .unset, .unset, .unset, .unset, .unset, .unset, .unset, .unset, .unset, .unset]) rfl ?_
          show Steps p.tables e below (T49.setTop (mkF m 121 #[.val (.int p0), .val (.int p1), .val (.long q2), .second, .val (.long q3), .second, .val (.long q4), .second, .val (.long q5), .second, .val (.int v1), .val (.int v6), .val (.int v11), .val (.int v16), .val (.int kk), .val (.ref tg), .val (.int ((0 : Int32) + (1 : Int32))), .unset, .unset, .unset, .unset, .unset, .unset, .unset, .unset, .unset, .unset] [])) _
          exact k_)
      exact ⟨T49, h49, _, ((0 : Int32) + (1 : Int32)), (oUpd (fun _ => .int (0 : Int32)) (([] : List Int32)).length (.int (0 : Int32))), X49, e49, N49, Z49, A49, own_go c109_47 (by simp only [List.length_append, List.length_nil]; omega) (⟨rfl, fun _ h => nomatch h⟩ : (0 : Int32).toInt = ((([] : List Int32)).length : Int) ∧ own_T (fun _ => .int (0 : Int32)) ([] : List Int32)), pre50⟩
  obtain ⟨T52, h52, L52, pp52, G52, X52, e52, N52, Z52, f58, hv52, pre52⟩ : ∃ (T52 : State) (h52 : Heap) (L52 : List Loc) (pp52 : Int32) (G52 : Nat → Value), Stand p l e room_1 s m #[(.int p0), (.int p1), (.long q2), (.long q3), (.long q4), (.long q5)] below meth c T52 L52 1 4 ∧ T52.heap = h52 ∧ Fr n0 L52 ∧ n0 ≤ h52.size ∧ OArr Z h52 tg .int kn G52 ∧ (pp52.toInt = ((((([] : List Int32) ++ own_l v1 0) ++ own_l v6 1)).length : Int) ∧ own_T G52 ((([] : List Int32) ++ own_l v1 0) ++ own_l v6 1)) ∧ ∀ t_, Steps p.tables e below (T52.setTop (mkF m 135 #[.val (.int p0), .val (.int p1), .val (.long q2), .second, .val (.long q3), .second, .val (.long q4), .second, .val (.long q5), .second, .val (.int v1), .val (.int v6), .val (.int v11), .val (.int v16), .val (.int kk), .val (.ref tg), .val (.int pp52), .unset, .unset, .unset, .unset, .unset, .unset, .unset, .unset, .unset, .unset] [])) t_ → Steps p.tables e below (s₁.setTop (entryFrame m #[(.int p0), (.int p1), (.long q2), (.long q3), (.long q4), (.long q5)] maxLocals)) t_ := by
    have pre53 : ∀ t_, Steps p.tables e below (T45.setTop (mkF m 123 #[.val (.int p0), .val (.int p1), .val (.long q2), .second, .val (.long q3), .second, .val (.long q4), .second, .val (.long q5), .second, .val (.int v1), .val (.int v6), .val (.int v11), .val (.int v16), .val (.int kk), .val (.ref tg), .val (.int pp45), .unset, .unset, .unset, .unset, .unset, .unset, .unset, .unset, .unset, .unset] [(.int v6)])) t_ → Steps p.tables e below (s₁.setTop (entryFrame m #[(.int p0), (.int p1), (.long q2), (.long q3), (.long q4), (.long q5)] maxLocals)) t_ := fun t_ k_ => pre45 t_ (by
        refine XS.iload X45.here hx rfl (hb hby at_121) rfl ?_
        show Steps p.tables e below (T45.setTop (mkF m 123 #[.val (.int p0), .val (.int p1), .val (.long q2), .second, .val (.long q3), .second, .val (.long q4), .second, .val (.long q5), .second, .val (.int v1), .val (.int v6), .val (.int v11), .val (.int v16), .val (.int kk), .val (.ref tg), .val (.int pp45), .unset, .unset, .unset, .unset, .unset, .unset, .unset, .unset, .unset, .unset] [(.int v6)])) _
        exact k_)
    by_cases c123_54 : v6 = (0 : Int32)
    · have pre55 : ∀ t_, Steps p.tables e below (T45.setTop (mkF m 135 #[.val (.int p0), .val (.int p1), .val (.long q2), .second, .val (.long q3), .second, .val (.long q4), .second, .val (.long q5), .second, .val (.int v1), .val (.int v6), .val (.int v11), .val (.int v16), .val (.int kk), .val (.ref tg), .val (.int pp45), .unset, .unset, .unset, .unset, .unset, .unset, .unset, .unset, .unset, .unset] [])) t_ → Steps p.tables e below (s₁.setTop (entryFrame m #[(.int p0), (.int p1), (.long q2), (.long q3), (.long q4), (.long q5)] maxLocals)) t_ := fun t_ k_ => pre53 t_ (by
          refine XS.ifYes X45.here hx rfl (pc0 := 123) (pc' := 135) rfl (hb hby at_123) rfl ((if0 _ _).trans (teq c123_54).1) (by decide) (by decide) ?_
          show Steps p.tables e below (T45.setTop (mkF m 135 #[.val (.int p0), .val (.int p1), .val (.long q2), .second, .val (.long q3), .second, .val (.long q4), .second, .val (.long q5), .second, .val (.int v1), .val (.int v6), .val (.int v11), .val (.int v16), .val (.int kk), .val (.ref tg), .val (.int pp45), .unset, .unset, .unset, .unset, .unset, .unset, .unset, .unset, .unset, .unset] [])) _
          exact k_)
      exact ⟨T45, h45, _, pp45, G45, X45, e45, N45, Z45, f51, own_stay c123_54 hv45, pre55⟩
    · obtain ⟨T56, h56, X56, e56, W56, A56, st56⟩ := oStI X45 hx hZ e45 f51 (k := ((([] : List Int32) ++ own_l v1 0)).length) (hv45).1 (by have q := own_l1 (z := 1) c123_54; rw [ekn]; simp only [List.length_append, List.length_nil]; omega) (g := (mkF m 131 #[.val (.int p0), .val (.int p1), .val (.long q2), .second, .val (.long q3), .second, .val (.long q4), .second, .val (.long q5), .second, .val (.int v1), .val (.int v6), .val (.int v11), .val (.int v16), .val (.int kk), .val (.ref tg), .val (.int pp45), .unset, .unset, .unset, .unset, .unset, .unset, .unset, .unset, .unset, .unset] [(.int (1 : Int32)), (.int pp45), (.ref tg)])) rfl rfl (hb hby at_131)
      have N56 := Fr.snoc X56 N45 gg43
      have Z56 : n0 ≤ h56.size := Nat.le_trans Z45 (Keep.of_wr W56).1
      have pre57 : ∀ t_, Steps p.tables e below (T56.setTop (mkF m 135 #[.val (.int p0), .val (.int p1), .val (.long q2), .second, .val (.long q3), .second, .val (.long q4), .second, .val (.long q5), .second, .val (.int v1), .val (.int v6), .val (.int v11), .val (.int v16), .val (.int kk), .val (.ref tg), .val (.int (pp45 + (1 : Int32))), .unset, .unset, .unset, .unset, .unset, .unset, .unset, .unset, .unset, .unset] [])) t_ → Steps p.tables e below (s₁.setTop (entryFrame m #[(.int p0), (.int p1), (.long q2), (.long q3), (.long q4), (.long q5)] maxLocals)) t_ := fun t_ k_ => pre53 t_ (by
          refine XS.ifNo X45.here hx rfl (hb hby at_123) rfl ((if0 _ _).trans (feq c123_54).1) ?_
          show Steps p.tables e below (T45.setTop (mkF m 126 #[.val (.int p0), .val (.int p1), .val (.long q2), .second, .val (.long q3), .second, .val (.long q4), .second, .val (.long q5), .second, .val (.int v1), .val (.int v6), .val (.int v11), .val (.int v16), .val (.int kk), .val (.ref tg), .val (.int pp45), .unset, .unset, .unset, .unset, .unset, .unset, .unset, .unset, .unset, .unset] [])) _
          refine XS.aload X45.here hx rfl (hb hby at_126) rfl rfl ?_
          show Steps p.tables e below (T45.setTop (mkF m 128 #[.val (.int p0), .val (.int p1), .val (.long q2), .second, .val (.long q3), .second, .val (.long q4), .second, .val (.long q5), .second, .val (.int v1), .val (.int v6), .val (.int v11), .val (.int v16), .val (.int kk), .val (.ref tg), .val (.int pp45), .unset, .unset, .unset, .unset, .unset, .unset, .unset, .unset, .unset, .unset] [(.ref tg)])) _
          refine XS.iload X45.here hx rfl (hb hby at_128) rfl ?_
          show Steps p.tables e below (T45.setTop (mkF m 130 #[.val (.int p0), .val (.int p1), .val (.long q2), .second, .val (.long q3), .second, .val (.long q4), .second, .val (.long q5), .second, .val (.int v1), .val (.int v6), .val (.int v11), .val (.int v16), .val (.int kk), .val (.ref tg), .val (.int pp45), .unset, .unset, .unset, .unset, .unset, .unset, .unset, .unset, .unset, .unset] [(.int pp45), (.ref tg)])) _
          refine XS.iconst X45.here hx rfl (hb hby at_130) ?_
          show Steps p.tables e below (T45.setTop (mkF m 131 #[.val (.int p0), .val (.int p1), .val (.long q2), .second, .val (.long q3), .second, .val (.long q4), .second, .val (.long q5), .second, .val (.int v1), .val (.int v6), .val (.int v11), .val (.int v16), .val (.int kk), .val (.ref tg), .val (.int pp45), .unset, .unset, .unset, .unset, .unset, .unset, .unset, .unset, .unset, .unset] [(.int (1 : Int32)), (.int pp45), (.ref tg)])) _
          refine st56 _ ?_
          show Steps p.tables e below (T56.setTop (mkF m 132 #[.val (.int p0), .val (.int p1), .val (.long q2), .second, .val (.long q3), .second, .val (.long q4), .second, .val (.long q5), .second, .val (.int v1), .val (.int v6), .val (.int v11), .val (.int v16), .val (.int kk), .val (.ref tg), .val (.int pp45), .unset, .unset, .unset, .unset, .unset, .unset, .unset, .unset, .unset, .unset] [])) _
          refine XS.iinc X56.here hx rfl (hb hby at_132) rfl (l' := #[.val (.int p0), .val (.int p1), .val (.long q2), .second, .val (.long q3), .second, .val (.long q4), .second, .val (.long q5), .second, .val (.int v1), .val (.int v6), .val (.int v11), .val (.int v16), .val (.int kk), .val (.ref tg), .val (.int (pp45 + (1 : Int32))), .unset, .unset, .unset, .unset, .unset, .unset, .unset, .unset, .unset, .unset]) rfl ?_
          show Steps p.tables e below (T56.setTop (mkF m 135 #[.val (.int p0), .val (.int p1), .val (.long q2), .second, .val (.long q3), .second, .val (.long q4), .second, .val (.long q5), .second, .val (.int v1), .val (.int v6), .val (.int v11), .val (.int v16), .val (.int kk), .val (.ref tg), .val (.int (pp45 + (1 : Int32))), .unset, .unset, .unset, .unset, .unset, .unset, .unset, .unset, .unset, .unset] [])) _
          exact k_)
      exact ⟨T56, h56, _, (pp45 + (1 : Int32)), (oUpd G45 ((([] : List Int32) ++ own_l v1 0)).length (.int (1 : Int32))), X56, e56, N56, Z56, A56, own_go c123_54 (by simp only [List.length_append, List.length_nil]; omega) hv45, pre57⟩
  obtain ⟨T59, h59, L59, pp59, G59, X59, e59, N59, Z59, f65, hv59, pre59⟩ : ∃ (T59 : State) (h59 : Heap) (L59 : List Loc) (pp59 : Int32) (G59 : Nat → Value), Stand p l e room_1 s m #[(.int p0), (.int p1), (.long q2), (.long q3), (.long q4), (.long q5)] below meth c T59 L59 1 4 ∧ T59.heap = h59 ∧ Fr n0 L59 ∧ n0 ≤ h59.size ∧ OArr Z h59 tg .int kn G59 ∧ (pp59.toInt = (((((([] : List Int32) ++ own_l v1 0) ++ own_l v6 1) ++ own_l v11 2)).length : Int) ∧ own_T G59 (((([] : List Int32) ++ own_l v1 0) ++ own_l v6 1) ++ own_l v11 2)) ∧ ∀ t_, Steps p.tables e below (T59.setTop (mkF m 149 #[.val (.int p0), .val (.int p1), .val (.long q2), .second, .val (.long q3), .second, .val (.long q4), .second, .val (.long q5), .second, .val (.int v1), .val (.int v6), .val (.int v11), .val (.int v16), .val (.int kk), .val (.ref tg), .val (.int pp59), .unset, .unset, .unset, .unset, .unset, .unset, .unset, .unset, .unset, .unset] [])) t_ → Steps p.tables e below (s₁.setTop (entryFrame m #[(.int p0), (.int p1), (.long q2), (.long q3), (.long q4), (.long q5)] maxLocals)) t_ := by
    have pre60 : ∀ t_, Steps p.tables e below (T52.setTop (mkF m 137 #[.val (.int p0), .val (.int p1), .val (.long q2), .second, .val (.long q3), .second, .val (.long q4), .second, .val (.long q5), .second, .val (.int v1), .val (.int v6), .val (.int v11), .val (.int v16), .val (.int kk), .val (.ref tg), .val (.int pp52), .unset, .unset, .unset, .unset, .unset, .unset, .unset, .unset, .unset, .unset] [(.int v11)])) t_ → Steps p.tables e below (s₁.setTop (entryFrame m #[(.int p0), (.int p1), (.long q2), (.long q3), (.long q4), (.long q5)] maxLocals)) t_ := fun t_ k_ => pre52 t_ (by
        refine XS.iload X52.here hx rfl (hb hby at_135) rfl ?_
        show Steps p.tables e below (T52.setTop (mkF m 137 #[.val (.int p0), .val (.int p1), .val (.long q2), .second, .val (.long q3), .second, .val (.long q4), .second, .val (.long q5), .second, .val (.int v1), .val (.int v6), .val (.int v11), .val (.int v16), .val (.int kk), .val (.ref tg), .val (.int pp52), .unset, .unset, .unset, .unset, .unset, .unset, .unset, .unset, .unset, .unset] [(.int v11)])) _
        exact k_)
    by_cases c137_61 : v11 = (0 : Int32)
    · have pre62 : ∀ t_, Steps p.tables e below (T52.setTop (mkF m 149 #[.val (.int p0), .val (.int p1), .val (.long q2), .second, .val (.long q3), .second, .val (.long q4), .second, .val (.long q5), .second, .val (.int v1), .val (.int v6), .val (.int v11), .val (.int v16), .val (.int kk), .val (.ref tg), .val (.int pp52), .unset, .unset, .unset, .unset, .unset, .unset, .unset, .unset, .unset, .unset] [])) t_ → Steps p.tables e below (s₁.setTop (entryFrame m #[(.int p0), (.int p1), (.long q2), (.long q3), (.long q4), (.long q5)] maxLocals)) t_ := fun t_ k_ => pre60 t_ (by
          refine XS.ifYes X52.here hx rfl (pc0 := 137) (pc' := 149) rfl (hb hby at_137) rfl ((if0 _ _).trans (teq c137_61).1) (by decide) (by decide) ?_
          show Steps p.tables e below (T52.setTop (mkF m 149 #[.val (.int p0), .val (.int p1), .val (.long q2), .second, .val (.long q3), .second, .val (.long q4), .second, .val (.long q5), .second, .val (.int v1), .val (.int v6), .val (.int v11), .val (.int v16), .val (.int kk), .val (.ref tg), .val (.int pp52), .unset, .unset, .unset, .unset, .unset, .unset, .unset, .unset, .unset, .unset] [])) _
          exact k_)
      exact ⟨T52, h52, _, pp52, G52, X52, e52, N52, Z52, f58, own_stay c137_61 hv52, pre62⟩
    · obtain ⟨T63, h63, X63, e63, W63, A63, st63⟩ := oStI X52 hx hZ e52 f58 (k := (((([] : List Int32) ++ own_l v1 0) ++ own_l v6 1)).length) (hv52).1 (by have q := own_l1 (z := 2) c137_61; rw [ekn]; simp only [List.length_append, List.length_nil]; omega) (g := (mkF m 145 #[.val (.int p0), .val (.int p1), .val (.long q2), .second, .val (.long q3), .second, .val (.long q4), .second, .val (.long q5), .second, .val (.int v1), .val (.int v6), .val (.int v11), .val (.int v16), .val (.int kk), .val (.ref tg), .val (.int pp52), .unset, .unset, .unset, .unset, .unset, .unset, .unset, .unset, .unset, .unset] [(.int (2 : Int32)), (.int pp52), (.ref tg)])) rfl rfl (hb hby at_145)
      have N63 := Fr.snoc X63 N52 gg43
      have Z63 : n0 ≤ h63.size := Nat.le_trans Z52 (Keep.of_wr W63).1
      have pre64 : ∀ t_, Steps p.tables e below (T63.setTop (mkF m 149 #[.val (.int p0), .val (.int p1), .val (.long q2), .second, .val (.long q3), .second, .val (.long q4), .second, .val (.long q5), .second, .val (.int v1), .val (.int v6), .val (.int v11), .val (.int v16), .val (.int kk), .val (.ref tg), .val (.int (pp52 + (1 : Int32))), .unset, .unset, .unset, .unset, .unset, .unset, .unset, .unset, .unset, .unset] [])) t_ → Steps p.tables e below (s₁.setTop (entryFrame m #[(.int p0), (.int p1), (.long q2), (.long q3), (.long q4), (.long q5)] maxLocals)) t_ := fun t_ k_ => pre60 t_ (by
          refine XS.ifNo X52.here hx rfl (hb hby at_137) rfl ((if0 _ _).trans (feq c137_61).1) ?_
          show Steps p.tables e below (T52.setTop (mkF m 140 #[.val (.int p0), .val (.int p1), .val (.long q2), .second, .val (.long q3), .second, .val (.long q4), .second, .val (.long q5), .second, .val (.int v1), .val (.int v6), .val (.int v11), .val (.int v16), .val (.int kk), .val (.ref tg), .val (.int pp52), .unset, .unset, .unset, .unset, .unset, .unset, .unset, .unset, .unset, .unset] [])) _
          refine XS.aload X52.here hx rfl (hb hby at_140) rfl rfl ?_
          show Steps p.tables e below (T52.setTop (mkF m 142 #[.val (.int p0), .val (.int p1), .val (.long q2), .second, .val (.long q3), .second, .val (.long q4), .second, .val (.long q5), .second, .val (.int v1), .val (.int v6), .val (.int v11), .val (.int v16), .val (.int kk), .val (.ref tg), .val (.int pp52), .unset, .unset, .unset, .unset, .unset, .unset, .unset, .unset, .unset, .unset] [(.ref tg)])) _
          refine XS.iload X52.here hx rfl (hb hby at_142) rfl ?_
          show Steps p.tables e below (T52.setTop (mkF m 144 #[.val (.int p0), .val (.int p1), .val (.long q2), .second, .val (.long q3), .second, .val (.long q4), .second, .val (.long q5), .second, .val (.int v1), .val (.int v6), .val (.int v11), .val (.int v16), .val (.int kk), .val (.ref tg), .val (.int pp52), .unset, .unset, .unset, .unset, .unset, .unset, .unset, .unset, .unset, .unset] [(.int pp52), (.ref tg)])) _
          refine XS.iconst X52.here hx rfl (hb hby at_144) ?_
          show Steps p.tables e below (T52.setTop (mkF m 145 #[.val (.int p0), .val (.int p1), .val (.long q2), .second, .val (.long q3), .second, .val (.long q4), .second, .val (.long q5), .second, .val (.int v1), .val (.int v6), .val (.int v11), .val (.int v16), .val (.int kk), .val (.ref tg), .val (.int pp52), .unset, .unset, .unset, .unset, .unset, .unset, .unset, .unset, .unset, .unset] [(.int (2 : Int32)), (.int pp52), (.ref tg)])) _
          refine st63 _ ?_
          show Steps p.tables e below (T63.setTop (mkF m 146 #[.val (.int p0), .val (.int p1), .val (.long q2), .second, .val (.long q3), .second, .val (.long q4), .second, .val (.long q5), .second, .val (.int v1), .val (.int v6), .val (.int v11), .val (.int v16), .val (.int kk), .val (.ref tg), .val (.int pp52), .unset, .unset, .unset, .unset, .unset, .unset, .unset, .unset, .unset, .unset] [])) _
          refine XS.iinc X63.here hx rfl (hb hby at_146) rfl (l' := #[.val (.int p0), .val (.int p1), .val (.long q2), .second, .val (.long q3), .second, .val (.long q4), .second, .val (.long q5), .second, .val (.int v1), .val (.int v6), .val (.int v11), .val (.int v16), .val (.int kk), .val (.ref tg), .val (.int (pp52 + (1 : Int32))), .unset, .unset, .unset, .unset, .unset, .unset, .unset, .unset, .unset, .unset]) rfl ?_
          show Steps p.tables e below (T63.setTop (mkF m 149 #[.val (.int p0), .val (.int p1), .val (.long q2), .second, .val (.long q3), .second, .val (.long q4), .second, .val (.long q5), .second, .val (.int v1), .val (.int v6), .val (.int v11), .val (.int v16), .val (.int kk), .val (.ref tg), .val (.int (pp52 + (1 : Int32))), .unset, .unset, .unset, .unset, .unset, .unset, .unset, .unset, .unset, .unset] [])) _
          exact k_)
      exact ⟨T63, h63, _, (pp52 + (1 : Int32)), (oUpd G52 (((([] : List Int32) ++ own_l v1 0) ++ own_l v6 1)).length (.int (2 : Int32))), X63, e63, N63, Z63, A63, own_go c137_61 (by simp only [List.length_append, List.length_nil]; omega) hv52, pre64⟩
  obtain ⟨T66, h66, L66, pp66, G66, X66, e66, N66, Z66, f72, hv66, pre66⟩ : ∃ (T66 : State) (h66 : Heap) (L66 : List Loc) (pp66 : Int32) (G66 : Nat → Value), Stand p l e room_1 s m #[(.int p0), (.int p1), (.long q2), (.long q3), (.long q4), (.long q5)] below meth c T66 L66 1 4 ∧ T66.heap = h66 ∧ Fr n0 L66 ∧ n0 ≤ h66.size ∧ OArr Z h66 tg .int kn G66 ∧ (pp66.toInt = ((((((([] : List Int32) ++ own_l v1 0) ++ own_l v6 1) ++ own_l v11 2) ++ own_l v16 3)).length : Int) ∧ own_T G66 ((((([] : List Int32) ++ own_l v1 0) ++ own_l v6 1) ++ own_l v11 2) ++ own_l v16 3)) ∧ ∀ t_, Steps p.tables e below (T66.setTop (mkF m 163 #[.val (.int p0), .val (.int p1), .val (.long q2), .second, .val (.long q3), .second, .val (.long q4), .second, .val (.long q5), .second, .val (.int v1), .val (.int v6), .val (.int v11), .val (.int v16), .val (.int kk), .val (.ref tg), .val (.int pp66), .unset, .unset, .unset, .unset, .unset, .unset, .unset, .unset, .unset, .unset] [])) t_ → Steps p.tables e below (s₁.setTop (entryFrame m #[(.int p0), (.int p1), (.long q2), (.long q3), (.long q4), (.long q5)] maxLocals)) t_ := by
    have pre67 : ∀ t_, Steps p.tables e below (T59.setTop (mkF m 151 #[.val (.int p0), .val (.int p1), .val (.long q2), .second, .val (.long q3), .second, .val (.long q4), .second, .val (.long q5), .second, .val (.int v1), .val (.int v6), .val (.int v11), .val (.int v16), .val (.int kk), .val (.ref tg), .val (.int pp59), .unset, .unset, .unset, .unset, .unset, .unset, .unset, .unset, .unset, .unset] [(.int v16)])) t_ → Steps p.tables e below (s₁.setTop (entryFrame m #[(.int p0), (.int p1), (.long q2), (.long q3), (.long q4), (.long q5)] maxLocals)) t_ := fun t_ k_ => pre59 t_ (by
        refine XS.iload X59.here hx rfl (hb hby at_149) rfl ?_
        show Steps p.tables e below (T59.setTop (mkF m 151 #[.val (.int p0), .val (.int p1), .val (.long q2), .second, .val (.long q3), .second, .val (.long q4), .second, .val (.long q5), .second, .val (.int v1), .val (.int v6), .val (.int v11), .val (.int v16), .val (.int kk), .val (.ref tg), .val (.int pp59), .unset, .unset, .unset, .unset, .unset, .unset, .unset, .unset, .unset, .unset] [(.int v16)])) _
        exact k_)
    by_cases c151_68 : v16 = (0 : Int32)
    · have pre69 : ∀ t_, Steps p.tables e below (T59.setTop (mkF m 163 #[.val (.int p0), .val (.int p1), .val (.long q2), .second, .val (.long q3), .second, .val (.long q4), .second, .val (.long q5), .second, .val (.int v1), .val (.int v6), .val (.int v11), .val (.int v16), .val (.int kk), .val (.ref tg), .val (.int pp59), .unset, .unset, .unset, .unset, .unset, .unset, .unset, .unset, .unset, .unset] [])) t_ → Steps p.tables e below (s₁.setTop (entryFrame m #[(.int p0), (.int p1), (.long q2), (.long q3), (.long q4), (.long q5)] maxLocals)) t_ := fun t_ k_ => pre67 t_ (by
          refine XS.ifYes X59.here hx rfl (pc0 := 151) (pc' := 163) rfl (hb hby at_151) rfl ((if0 _ _).trans (teq c151_68).1) (by decide) (by decide) ?_
          show Steps p.tables e below (T59.setTop (mkF m 163 #[.val (.int p0), .val (.int p1), .val (.long q2), .second, .val (.long q3), .second, .val (.long q4), .second, .val (.long q5), .second, .val (.int v1), .val (.int v6), .val (.int v11), .val (.int v16), .val (.int kk), .val (.ref tg), .val (.int pp59), .unset, .unset, .unset, .unset, .unset, .unset, .unset, .unset, .unset, .unset] [])) _
          exact k_)
      exact ⟨T59, h59, _, pp59, G59, X59, e59, N59, Z59, f65, own_stay c151_68 hv59, pre69⟩
    · obtain ⟨T70, h70, X70, e70, W70, A70, st70⟩ := oStI X59 hx hZ e59 f65 (k := ((((([] : List Int32) ++ own_l v1 0) ++ own_l v6 1) ++ own_l v11 2)).length) (hv59).1 (by have q := own_l1 (z := 3) c151_68; rw [ekn]; simp only [List.length_append, List.length_nil]; omega) (g := (mkF m 159 #[.val (.int p0), .val (.int p1), .val (.long q2), .second, .val (.long q3), .second, .val (.long q4), .second, .val (.long q5), .second, .val (.int v1), .val (.int v6), .val (.int v11), .val (.int v16), .val (.int kk), .val (.ref tg), .val (.int pp59), .unset, .unset, .unset, .unset, .unset, .unset, .unset, .unset, .unset, .unset] [(.int (3 : Int32)), (.int pp59), (.ref tg)])) rfl rfl (hb hby at_159)
      have N70 := Fr.snoc X70 N59 gg43
      have Z70 : n0 ≤ h70.size := Nat.le_trans Z59 (Keep.of_wr W70).1
      have pre71 : ∀ t_, Steps p.tables e below (T70.setTop (mkF m 163 #[.val (.int p0), .val (.int p1), .val (.long q2), .second, .val (.long q3), .second, .val (.long q4), .second, .val (.long q5), .second, .val (.int v1), .val (.int v6), .val (.int v11), .val (.int v16), .val (.int kk), .val (.ref tg), .val (.int (pp59 + (1 : Int32))), .unset, .unset, .unset, .unset, .unset, .unset, .unset, .unset, .unset, .unset] [])) t_ → Steps p.tables e below (s₁.setTop (entryFrame m #[(.int p0), (.int p1), (.long q2), (.long q3), (.long q4), (.long q5)] maxLocals)) t_ := fun t_ k_ => pre67 t_ (by
          refine XS.ifNo X59.here hx rfl (hb hby at_151) rfl ((if0 _ _).trans (feq c151_68).1) ?_
          show Steps p.tables e below (T59.setTop (mkF m 154 #[.val (.int p0), .val (.int p1), .val (.long q2), .second, .val (.long q3), .second, .val (.long q4), .second, .val (.long q5), .second, .val (.int v1), .val (.int v6), .val (.int v11), .val (.int v16), .val (.int kk), .val (.ref tg), .val (.int pp59), .unset, .unset, .unset, .unset, .unset, .unset, .unset, .unset, .unset, .unset] [])) _
          refine XS.aload X59.here hx rfl (hb hby at_154) rfl rfl ?_
          show Steps p.tables e below (T59.setTop (mkF m 156 #[.val (.int p0), .val (.int p1), .val (.long q2), .second, .val (.long q3), .second, .val (.long q4), .second, .val (.long q5), .second, .val (.int v1), .val (.int v6), .val (.int v11), .val (.int v16), .val (.int kk), .val (.ref tg), .val (.int pp59), .unset, .unset, .unset, .unset, .unset, .unset, .unset, .unset, .unset, .unset] [(.ref tg)])) _
          refine XS.iload X59.here hx rfl (hb hby at_156) rfl ?_
          show Steps p.tables e below (T59.setTop (mkF m 158 #[.val (.int p0), .val (.int p1), .val (.long q2), .second, .val (.long q3), .second, .val (.long q4), .second, .val (.long q5), .second, .val (.int v1), .val (.int v6), .val (.int v11), .val (.int v16), .val (.int kk), .val (.ref tg), .val (.int pp59), .unset, .unset, .unset, .unset, .unset, .unset, .unset, .unset, .unset, .unset] [(.int pp59), (.ref tg)])) _
          refine XS.iconst X59.here hx rfl (hb hby at_158) ?_
          show Steps p.tables e below (T59.setTop (mkF m 159 #[.val (.int p0), .val (.int p1), .val (.long q2), .second, .val (.long q3), .second, .val (.long q4), .second, .val (.long q5), .second, .val (.int v1), .val (.int v6), .val (.int v11), .val (.int v16), .val (.int kk), .val (.ref tg), .val (.int pp59), .unset, .unset, .unset, .unset, .unset, .unset, .unset, .unset, .unset, .unset] [(.int (3 : Int32)), (.int pp59), (.ref tg)])) _
          refine st70 _ ?_
          show Steps p.tables e below (T70.setTop (mkF m 160 #[.val (.int p0), .val (.int p1), .val (.long q2), .second, .val (.long q3), .second, .val (.long q4), .second, .val (.long q5), .second, .val (.int v1), .val (.int v6), .val (.int v11), .val (.int v16), .val (.int kk), .val (.ref tg), .val (.int pp59), .unset, .unset, .unset, .unset, .unset, .unset, .unset, .unset, .unset, .unset] [])) _
          refine XS.iinc X70.here hx rfl (hb hby at_160) rfl (l' := #[.val (.int p0), .val (.int p1), .val (.long q2), .second, .val (.long q3), .second, .val (.long q4), .second, .val (.long q5), .second, .val (.int v1), .val (.int v6), .val (.int v11), .val (.int v16), .val (.int kk), .val (.ref tg), .val (.int (pp59 + (1 : Int32))), .unset, .unset, .unset, .unset, .unset, .unset, .unset, .unset, .unset, .unset]) rfl ?_
          show Steps p.tables e below (T70.setTop (mkF m 163 #[.val (.int p0), .val (.int p1), .val (.long q2), .second, .val (.long q3), .second, .val (.long q4), .second, .val (.long q5), .second, .val (.int v1), .val (.int v6), .val (.int v11), .val (.int v16), .val (.int kk), .val (.ref tg), .val (.int (pp59 + (1 : Int32))), .unset, .unset, .unset, .unset, .unset, .unset, .unset, .unset, .unset, .unset] [])) _
          exact k_)
      exact ⟨T70, h70, _, (pp59 + (1 : Int32)), (oUpd G59 ((((([] : List Int32) ++ own_l v1 0) ++ own_l v6 1) ++ own_l v11 2)).length (.int (3 : Int32))), X70, e70, N70, Z70, A70, own_go c151_68 (by simp only [List.length_append, List.length_nil]; omega) hv59, pre71⟩
  have pre73 : ∀ t_, Steps p.tables e below (T66.setTop (mkF m 170 #[.val (.int p0), .val (.int p1), .val (.long q2), .second, .val (.long q3), .second, .val (.long q4), .second, .val (.long q5), .second, .val (.int v1), .val (.int v6), .val (.int v11), .val (.int v16), .val (.int kk), .val (.ref tg), .val (.int pp66), .val (.long (q3 ^^^ q4)), .second, .unset, .unset, .unset, .unset, .unset, .unset, .unset, .unset] [])) t_ → Steps p.tables e below (s₁.setTop (entryFrame m #[(.int p0), (.int p1), (.long q2), (.long q3), (.long q4), (.long q5)] maxLocals)) t_ := fun t_ k_ => pre66 t_ (by
      refine XS.lload X66.here hx rfl (hb hby at_163) rfl ?_
      show Steps p.tables e below (T66.setTop (mkF m 165 #[.val (.int p0), .val (.int p1), .val (.long q2), .second, .val (.long q3), .second, .val (.long q4), .second, .val (.long q5), .second, .val (.int v1), .val (.int v6), .val (.int v11), .val (.int v16), .val (.int kk), .val (.ref tg), .val (.int pp66), .unset, .unset, .unset, .unset, .unset, .unset, .unset, .unset, .unset, .unset] [(.long q3)])) _
      refine XS.lload X66.here hx rfl (hb hby at_165) rfl ?_
      show Steps p.tables e below (T66.setTop (mkF m 167 #[.val (.int p0), .val (.int p1), .val (.long q2), .second, .val (.long q3), .second, .val (.long q4), .second, .val (.long q5), .second, .val (.int v1), .val (.int v6), .val (.int v11), .val (.int v16), .val (.int kk), .val (.ref tg), .val (.int pp66), .unset, .unset, .unset, .unset, .unset, .unset, .unset, .unset, .unset, .unset] [(.long q4), (.long q3)])) _
      refine XS.lxor X66.here hx rfl (hb hby at_167) rfl ?_
      show Steps p.tables e below (T66.setTop (mkF m 168 #[.val (.int p0), .val (.int p1), .val (.long q2), .second, .val (.long q3), .second, .val (.long q4), .second, .val (.long q5), .second, .val (.int v1), .val (.int v6), .val (.int v11), .val (.int v16), .val (.int kk), .val (.ref tg), .val (.int pp66), .unset, .unset, .unset, .unset, .unset, .unset, .unset, .unset, .unset, .unset] [(.long (q3 ^^^ q4))])) _
      refine XS.lstore X66.here hx rfl (hb hby at_168) rfl (l' := #[.val (.int p0), .val (.int p1), .val (.long q2), .second, .val (.long q3), .second, .val (.long q4), .second, .val (.long q5), .second, .val (.int v1), .val (.int v6), .val (.int v11), .val (.int v16), .val (.int kk), .val (.ref tg), .val (.int pp66), .val (.long (q3 ^^^ q4)), .second, .unset, .unset, .unset, .unset, .unset, .unset, .unset, .unset]) rfl ?_
      show Steps p.tables e below (T66.setTop (mkF m 170 #[.val (.int p0), .val (.int p1), .val (.long q2), .second, .val (.long q3), .second, .val (.long q4), .second, .val (.long q5), .second, .val (.int v1), .val (.int v6), .val (.int v11), .val (.int v16), .val (.int kk), .val (.ref tg), .val (.int pp66), .val (.long (q3 ^^^ q4)), .second, .unset, .unset, .unset, .unset, .unset, .unset, .unset, .unset] [])) _
      exact k_)
  obtain ⟨wx, e_wx⟩ : ∃ z : Int64, z = (q3 ^^^ q4) := ⟨_, rfl⟩
  have pre74 : ∀ t_, Steps p.tables e below (T66.setTop (mkF m 170 #[.val (.int p0), .val (.int p1), .val (.long q2), .second, .val (.long q3), .second, .val (.long q4), .second, .val (.long q5), .second, .val (.int v1), .val (.int v6), .val (.int v11), .val (.int v16), .val (.int kk), .val (.ref tg), .val (.int pp66), .val (.long wx), .second, .unset, .unset, .unset, .unset, .unset, .unset, .unset, .unset] [])) t_ → Steps p.tables e below (s₁.setTop (entryFrame m #[(.int p0), (.int p1), (.long q2), (.long q3), (.long q4), (.long q5)] maxLocals)) t_ := by subst e_wx; exact pre73
  obtain ⟨T75, h75, X75, e75, E75, A75, st75⟩ := oNew X66 hx hZ (hw _ (List.mem_of_getElem? (i := 1) rfl)) e66 (g := (mkF m 171 #[.val (.int p0), .val (.int p1), .val (.long q2), .second, .val (.long q3), .second, .val (.long q4), .second, .val (.long q5), .second, .val (.int v1), .val (.int v6), .val (.int v11), .val (.int v16), .val (.int kk), .val (.ref tg), .val (.int pp66), .val (.long wx), .second, .unset, .unset, .unset, .unset, .unset, .unset, .unset, .unset] [(.int (4 : Int32))])) rfl (hb hby at_171) rfl (k := 4) (cap := 4) rfl (by decide) (by decide) (by decide) (by decide)
  obtain ⟨op, g75⟩ : ∃ z, z = h66.size := ⟨_, rfl⟩
  rw [← g75] at A75 st75
  have ne76 : tg ≠ op := Nat.ne_of_lt (Nat.lt_of_lt_of_le f72.lt (Nat.le_of_eq g75.symm))
  have gg75 : n0 ≤ op := Nat.le_trans Z66 (Nat.le_of_eq g75.symm)
  have f77 := f72.ext E75
  have Z75 : n0 ≤ h75.size := Nat.le_trans Z66 E75.1
  have B75 : OArr Z h75 op .long 4 (fun _ => .long (0 : Int64)) := A75
  obtain ⟨T78, h78, X78, e78, W78, A78, st78⟩ := oStJ X75 hx hZ e75 B75 (k := 0) rfl (by decide) (g := (mkF m 177 #[.val (.int p0), .val (.int p1), .val (.long q2), .second, .val (.long q3), .second, .val (.long q4), .second, .val (.long q5), .second, .val (.int v1), .val (.int v6), .val (.int v11), .val (.int v16), .val (.int kk), .val (.ref tg), .val (.int pp66), .val (.long wx), .second, .unset, .unset, .unset, .unset, .unset, .unset, .unset, .unset] [(.long q3), (.int (0 : Int32)), (.ref op), (.ref op)])) rfl rfl (hb hby at_177)
  have f79 := f77.other W78 ne76
  have N78 := Fr.snoc X78 N66 gg75
  have Z78 : n0 ≤ h78.size := Nat.le_trans Z75 (Keep.of_wr W78).1
  obtain ⟨T80, h80, X80, e80, W80, A80, st80⟩ := oStJ X78 hx hZ e78 A78 (k := 1) rfl (by decide) (g := (mkF m 182 #[.val (.int p0), .val (.int p1), .val (.long q2), .second, .val (.long q3), .second, .val (.long q4), .second, .val (.long q5), .second, .val (.int v1), .val (.int v6), .val (.int v11), .val (.int v16), .val (.int kk), .val (.ref tg), .val (.int pp66), .val (.long wx), .second, .unset, .unset, .unset, .unset, .unset, .unset, .unset, .unset] [(.long q4), (.int (1 : Int32)), (.ref op), (.ref op)])) rfl rfl (hb hby at_182)
  have f81 := f79.other W80 ne76
  have N80 := Fr.snoc X80 N78 gg75
  have Z80 : n0 ≤ h80.size := Nat.le_trans Z78 (Keep.of_wr W80).1
  obtain ⟨T82, h82, X82, e82, W82, A82, st82⟩ := oStJ X80 hx hZ e80 A80 (k := 2) rfl (by decide) (g := (mkF m 187 #[.val (.int p0), .val (.int p1), .val (.long q2), .second, .val (.long q3), .second, .val (.long q4), .second, .val (.long q5), .second, .val (.int v1), .val (.int v6), .val (.int v11), .val (.int v16), .val (.int kk), .val (.ref tg), .val (.int pp66), .val (.long wx), .second, .unset, .unset, .unset, .unset, .unset, .unset, .unset, .unset] [(.long q5), (.int (2 : Int32)), (.ref op), (.ref op)])) rfl rfl (hb hby at_187)
  have f83 := f81.other W82 ne76
  have N82 := Fr.snoc X82 N80 gg75
  have Z82 : n0 ≤ h82.size := Nat.le_trans Z80 (Keep.of_wr W82).1
  obtain ⟨T84, h84, X84, e84, W84, A84, st84⟩ := oStJ X82 hx hZ e82 A82 (k := 3) rfl (by decide) (g := (mkF m 192 #[.val (.int p0), .val (.int p1), .val (.long q2), .second, .val (.long q3), .second, .val (.long q4), .second, .val (.long q5), .second, .val (.int v1), .val (.int v6), .val (.int v11), .val (.int v16), .val (.int kk), .val (.ref tg), .val (.int pp66), .val (.long wx), .second, .unset, .unset, .unset, .unset, .unset, .unset, .unset, .unset] [(.long wx), (.int (3 : Int32)), (.ref op), (.ref op)])) rfl rfl (hb hby at_192)
  have f85 := f83.other W84 ne76
  have N84 := Fr.snoc X84 N82 gg75
  have Z84 : n0 ≤ h84.size := Nat.le_trans Z82 (Keep.of_wr W84).1
  obtain ⟨T86, h86, X86, e86, E86, A86, D86, -, st86⟩ := newO X84 hx hZ hown (hw _ (List.mem_of_getElem? (i := 2) rfl)) (hw _ (List.mem_of_getElem? (i := 3) rfl)) (hw _ (List.mem_of_getElem? (i := 4) rfl)) e84 (g := (mkF m 195 #[.val (.int p0), .val (.int p1), .val (.long q2), .second, .val (.long q3), .second, .val (.long q4), .second, .val (.long q5), .second, .val (.int v1), .val (.int v6), .val (.int v11), .val (.int v16), .val (.int kk), .val (.ref tg), .val (.int pp66), .val (.long wx), .second, .val (.ref op), .unset, .unset, .unset, .unset, .unset, .unset, .unset] [])) rfl (hb hby at_195) (by decide) (by decide)
  obtain ⟨sh, g86⟩ : ∃ z, z = h84.size := ⟨_, rfl⟩
  rw [← g86] at A86 D86 st86
  have ne87 : tg ≠ sh := Nat.ne_of_lt (Nat.lt_of_lt_of_le f85.lt (Nat.le_of_eq g86.symm))
  have ne88 : op ≠ sh := Nat.ne_of_lt (Nat.lt_of_lt_of_le A84.lt (Nat.le_of_eq g86.symm))
  have gg86 : n0 ≤ sh := Nat.le_trans Z84 (Nat.le_of_eq g86.symm)
  have f89 := f85.ext E86
  have f90 := A84.ext E86
  have Z86 : n0 ≤ h86.size := Nat.le_trans Z84 E86.1
  have f91 : Fld Z h86 sh "com/example/shapewell/shapewell/validate/Sharing$Share" "targets" "[I" .null := D86 (Or.inr (hw _ (List.mem_of_getElem? (i := 12) rfl))) (ty := (.array .int)) (by decide)
  have f92 : Fld Z h86 sh "com/example/shapewell/shapewell/validate/Sharing$Share" "size" "J" (.long (0 : Int64)) := D86 (Or.inr (hw _ (List.mem_of_getElem? (i := 14) rfl))) (ty := .long) (by decide)
  have f93 : Fld Z h86 sh "com/example/shapewell/shapewell/validate/Sharing$Share" "given" "[J" .null := D86 (Or.inr (hw _ (List.mem_of_getElem? (i := 16) rfl))) (ty := (.array .long)) (by decide)
  obtain ⟨_, _, ⟨T94, L94, k94, n94⟩, -, X94, ⟨Lc94, hQ94, l94, y94, z94⟩, st94⟩ := X86.specialBack hx (y := (⟨"com/example/shapewell/shapewell/validate/Sharing$Share", "<init>", "([IJ)V"⟩ : MethodName)) rfl hown (mvT hZ (hw _ (List.mem_of_getElem? (i := 5) rfl))) (mvT hZ (hw _ (List.mem_of_getElem? (i := 6) rfl))) (mvT hZ (hw _ (List.mem_of_getElem? (i := 7) rfl))) (by decide) (backOf (W := 1) (rmA l Z a0 hw [] sh tg q2 kn G66 kk h86 n0 Z86 A86 f91 f92 f93 f89 (Ne.symm ne87) gg86 hkn hk4) hZ (hw _ (List.mem_of_getElem? (i := 7) rfl)) (hw _ (List.mem_of_getElem? (i := 4) rfl)) (by decide) (by decide)) (g := (mkF m 202 #[.val (.int p0), .val (.int p1), .val (.long q2), .second, .val (.long q3), .second, .val (.long q4), .second, .val (.long q5), .second, .val (.int v1), .val (.int v6), .val (.int v11), .val (.int v16), .val (.int kk), .val (.ref tg), .val (.int pp66), .val (.long wx), .second, .val (.ref op), .unset, .unset, .unset, .unset, .unset, .unset, .unset] [(.long q2), (.ref tg), (.ref sh), (.ref sh)])) rfl (by rw [hml]; rfl) (Steps.refl _) (a := sh) (argsL := [(.ref tg), (.long q2)]) (rest := [(.ref sh)]) (lenOf pd0_0 rfl) rfl (by show 2 * 0 + _ ≤ _; exact Nat.le_of_eq rfl) (hb hby at_202) (fun _ _ => ⟨rfl, e86, (by decide : 3 + 1 ≤ _), (by decide : 11 + 4 ≤ _)⟩)
  dsimp only [Pt.U, Pt.locs, Pt.cells, Pt.slots] at X94 l94 y94 z94 st94 hQ94
  subst l94 y94 z94
  obtain ⟨rfl, N94q, K94, E94q, Ft94, Fs94⟩ := hQ94
  have N94 := Fr.app N84 N94q
  have f95 := f89.keep K94 (ninS ne87 nin0)
  have f96 := f90.keep K94 (ninS ne88 nin0)
  have Z94 : n0 ≤ T94.heap.size := Nat.le_trans Z86 K94.1
  have AO := f96.congr (own_ag q3 q4 q5 wx)
  have hlen : (own_ts v1 v6 v11 v16).length = kn := by unfold own_ts; rw [ekn]; simp only [List.length_append, List.length_nil]; omega
  obtain ⟨cq97, kq97, q97a, q97b, q97c⟩ := isOf hZ rfl E94q
  obtain ⟨_, _, ⟨T97, L97, k97, n97⟩, -, X97, ⟨Lc97, hQ97, l97, y97, z97⟩, st97⟩ := X94.virtualBack hx (y := (⟨"com/example/shapewell/shapewell/validate/Sharing$Share", "offer", "([JI)V"⟩ : MethodName)) (z := (⟨"com/example/shapewell/shapewell/validate/Sharing$Share", "offer", "([JI)V"⟩ : MethodName)) hown (mvT hZ (hw _ (List.mem_of_getElem? (i := 17) rfl))) (mvT hZ (hw _ (List.mem_of_getElem? (i := 18) rfl))) (notFace_of_selects (args := #[]) (mvT hZ (hw _ (List.mem_of_getElem? (i := 20) rfl)))) (mvT hZ (hw _ (List.mem_of_getElem? (i := 20) rfl))) (mvT hZ (hw _ (List.mem_of_getElem? (i := 19) rfl))) (by decide) (backOf (W := 0) (rmB l Z a0 hw [] sh op p1 tg kn kk (own_ts v1 v6 v11 v16) G66 (own_g q3 q4 q5 wx) q2 T94.heap n0 Z94 Ft94 Fs94 f95 AO hv66.2 hlen hkn hk4 (own_in v1 v6 v11 v16) (Ne.symm ne88) ne76 gg75) hZ (hw _ (List.mem_of_getElem? (i := 21) rfl)) (hw _ (List.mem_of_getElem? (i := 4) rfl)) (by decide) (by decide)) q97a q97c (g := (mkF m 212 #[.val (.int p0), .val (.int p1), .val (.long q2), .second, .val (.long q3), .second, .val (.long q4), .second, .val (.long q5), .second, .val (.int v1), .val (.int v6), .val (.int v11), .val (.int v16), .val (.int kk), .val (.ref tg), .val (.int pp66), .val (.long wx), .second, .val (.ref op), .val (.ref sh), .unset, .unset, .unset, .unset, .unset, .unset] [(.int p1), (.ref op), (.ref sh)])) rfl (by rw [hml]; rfl) (Steps.refl _) (argsL := [(.ref op), (.int p1)]) (rest := []) (lenOf pd0_1 rfl) rfl (by show 2 * 0 + _ ≤ _; exact Nat.le_of_eq rfl) (hb hby at_212) (fun _ _ => ⟨rfl, rfl, (by decide : 4 + 0 ≤ _), (by decide : 15 + 0 ≤ _)⟩)
  dsimp only [Pt.U, Pt.locs, Pt.cells, Pt.slots] at X97 l97 y97 z97 st97 hQ97
  subst l97 y97 z97
  obtain ⟨rfl, N97q, K97, A97q⟩ := hQ97
  have N97 := Fr.app N94 N97q
  have f98 := f95.keep K97 (ninS ne76 nin0)
  have f99 := E94q.keep K97
  have f100 := Ft94.keep K97 (ninS (Ne.symm ne88) nin0)
  have f101 := Fs94.keep K97 (ninS (Ne.symm ne88) nin0)
  have Z97 : n0 ≤ T97.heap.size := Nat.le_trans Z94 K97.1
  have pre102 : ∀ t_, Steps p.tables e below (T97.setTop (mkF m 221 #[.val (.int p0), .val (.int p1), .val (.long q2), .second, .val (.long q3), .second, .val (.long q4), .second, .val (.long q5), .second, .val (.int v1), .val (.int v6), .val (.int v11), .val (.int v16), .val (.int kk), .val (.ref tg), .val (.int pp66), .val (.long wx), .second, .val (.ref op), .val (.ref sh), .val (.long ((p1.toInt64) * q2)), .second, .unset, .unset, .unset, .unset] [])) t_ → Steps p.tables e below (s₁.setTop (entryFrame m #[(.int p0), (.int p1), (.long q2), (.long q3), (.long q4), (.long q5)] maxLocals)) t_ := fun t_ k_ => pre74 t_ (by
      refine XS.iconst X66.here hx rfl (hb hby at_170) ?_
      show Steps p.tables e below (T66.setTop (mkF m 171 #[.val (.int p0), .val (.int p1), .val (.long q2), .second, .val (.long q3), .second, .val (.long q4), .second, .val (.long q5), .second, .val (.int v1), .val (.int v6), .val (.int v11), .val (.int v16), .val (.int kk), .val (.ref tg), .val (.int pp66), .val (.long wx), .second, .unset, .unset, .unset, .unset, .unset, .unset, .unset, .unset] [(.int (4 : Int32))])) _
      refine st75 _ ?_
      show Steps p.tables e below (T75.setTop (mkF m 173 #[.val (.int p0), .val (.int p1), .val (.long q2), .second, .val (.long q3), .second, .val (.long q4), .second, .val (.long q5), .second, .val (.int v1), .val (.int v6), .val (.int v11), .val (.int v16), .val (.int kk), .val (.ref tg), .val (.int pp66), .val (.long wx), .second, .unset, .unset, .unset, .unset, .unset, .unset, .unset, .unset] [(.ref op)])) _
      refine XS.dup X75.here hx rfl (hb hby at_173) rfl rfl ?_
      show Steps p.tables e below (T75.setTop (mkF m 174 #[.val (.int p0), .val (.int p1), .val (.long q2), .second, .val (.long q3), .second, .val (.long q4), .second, .val (.long q5), .second, .val (.int v1), .val (.int v6), .val (.int v11), .val (.int v16), .val (.int kk), .val (.ref tg), .val (.int pp66), .val (.long wx), .second, .unset, .unset, .unset, .unset, .unset, .unset, .unset, .unset] [(.ref op), (.ref op)])) _
      refine XS.iconst X75.here hx rfl (hb hby at_174) ?_
      show Steps p.tables e below (T75.setTop (mkF m 175 #[.val (.int p0), .val (.int p1), .val (.long q2), .second, .val (.long q3), .second, .val (.long q4), .second, .val (.long q5), .second, .val (.int v1), .val (.int v6), .val (.int v11), .val (.int v16), .val (.int kk), .val (.ref tg), .val (.int pp66), .val (.long wx), .second, .unset, .unset, .unset, .unset, .unset, .unset, .unset, .unset] [(.int (0 : Int32)), (.ref op), (.ref op)])) _
      refine XS.lload X75.here hx rfl (hb hby at_175) rfl ?_
      show Steps p.tables e below (T75.setTop (mkF m 177 #[.val (.int p0), .val (.int p1), .val (.long q2), .second, .val (.long q3), .second, .val (.long q4), .second, .val (.long q5), .second, .val (.int v1), .val (.int v6), .val (.int v11), .val (.int v16), .val (.int kk), .val (.ref tg), .val (.int pp66), .val (.long wx), .second, .unset, .unset, .unset, .unset, .unset, .unset, .unset, .unset] [(.long q3), (.int (0 : Int32)), (.ref op), (.ref op)])) _
      refine st78 _ ?_
      show Steps p.tables e below (T78.setTop (mkF m 178 #[.val (.int p0), .val (.int p1), .val (.long q2), .second, .val (.long q3), .second, .val (.long q4), .second, .val (.long q5), .second, .val (.int v1), .val (.int v6), .val (.int v11), .val (.int v16), .val (.int kk), .val (.ref tg), .val (.int pp66), .val (.long wx), .second, .unset, .unset, .unset, .unset, .unset, .unset, .unset, .unset] [(.ref op)])) _
      refine XS.dup X78.here hx rfl (hb hby at_178) rfl rfl ?_
      show Steps p.tables e below (T78.setTop (mkF m 179 #[.val (.int p0), .val (.int p1), .val (.long q2), .second, .val (.long q3), .second, .val (.long q4), .second, .val (.long q5), .second, .val (.int v1), .val (.int v6), .val (.int v11), .val (.int v16), .val (.int kk), .val (.ref tg), .val (.int pp66), .val (.long wx), .second, .unset, .unset, .unset, .unset, .unset, .unset, .unset, .unset] [(.ref op), (.ref op)])) _
      refine XS.iconst X78.here hx rfl (hb hby at_179) ?_
      show Steps p.tables e below (T78.setTop (mkF m 180 #[.val (.int p0), .val (.int p1), .val (.long q2), .second, .val (.long q3), .second, .val (.long q4), .second, .val (.long q5), .second, .val (.int v1), .val (.int v6), .val (.int v11), .val (.int v16), .val (.int kk), .val (.ref tg), .val (.int pp66), .val (.long wx), .second, .unset, .unset, .unset, .unset, .unset, .unset, .unset, .unset] [(.int (1 : Int32)), (.ref op), (.ref op)])) _
      refine XS.lload X78.here hx rfl (hb hby at_180) rfl ?_
      show Steps p.tables e below (T78.setTop (mkF m 182 #[.val (.int p0), .val (.int p1), .val (.long q2), .second, .val (.long q3), .second, .val (.long q4), .second, .val (.long q5), .second, .val (.int v1), .val (.int v6), .val (.int v11), .val (.int v16), .val (.int kk), .val (.ref tg), .val (.int pp66), .val (.long wx), .second, .unset, .unset, .unset, .unset, .unset, .unset, .unset, .unset] [(.long q4), (.int (1 : Int32)), (.ref op), (.ref op)])) _
      refine st80 _ ?_
      show Steps p.tables e below (T80.setTop (mkF m 183 #[.val (.int p0), .val (.int p1), .val (.long q2), .second, .val (.long q3), .second, .val (.long q4), .second, .val (.long q5), .second, .val (.int v1), .val (.int v6), .val (.int v11), .val (.int v16), .val (.int kk), .val (.ref tg), .val (.int pp66), .val (.long wx), .second, .unset, .unset, .unset, .unset, .unset, .unset, .unset, .unset] [(.ref op)])) _
      refine XS.dup X80.here hx rfl (hb hby at_183) rfl rfl ?_
      show Steps p.tables e below (T80.setTop (mkF m 184 #[.val (.int p0), .val (.int p1), .val (.long q2), .second, .val (.long q3), .second, .val (.long q4), .second, .val (.long q5), .second, .val (.int v1), .val (.int v6), .val (.int v11), .val (.int v16), .val (.int kk), .val (.ref tg), .val (.int pp66), .val (.long wx), .second, .unset, .unset, .unset, .unset, .unset, .unset, .unset, .unset] [(.ref op), (.ref op)])) _
      refine XS.iconst X80.here hx rfl (hb hby at_184) ?_
      show Steps p.tables e below (T80.setTop (mkF m 185 #[.val (.int p0), .val (.int p1), .val (.long q2), .second, .val (.long q3), .second, .val (.long q4), .second, .val (.long q5), .second, .val (.int v1), .val (.int v6), .val (.int v11), .val (.int v16), .val (.int kk), .val (.ref tg), .val (.int pp66), .val (.long wx), .second, .unset, .unset, .unset, .unset, .unset, .unset, .unset, .unset] [(.int (2 : Int32)), (.ref op), (.ref op)])) _
      refine XS.lload X80.here hx rfl (hb hby at_185) rfl ?_
      show Steps p.tables e below (T80.setTop (mkF m 187 #[.val (.int p0), .val (.int p1), .val (.long q2), .second, .val (.long q3), .second, .val (.long q4), .second, .val (.long q5), .second, .val (.int v1), .val (.int v6), .val (.int v11), .val (.int v16), .val (.int kk), .val (.ref tg), .val (.int pp66), .val (.long wx), .second, .unset, .unset, .unset, .unset, .unset, .unset, .unset, .unset] [(.long q5), (.int (2 : Int32)), (.ref op), (.ref op)])) _
      refine st82 _ ?_
      show Steps p.tables e below (T82.setTop (mkF m 188 #[.val (.int p0), .val (.int p1), .val (.long q2), .second, .val (.long q3), .second, .val (.long q4), .second, .val (.long q5), .second, .val (.int v1), .val (.int v6), .val (.int v11), .val (.int v16), .val (.int kk), .val (.ref tg), .val (.int pp66), .val (.long wx), .second, .unset, .unset, .unset, .unset, .unset, .unset, .unset, .unset] [(.ref op)])) _
      refine XS.dup X82.here hx rfl (hb hby at_188) rfl rfl ?_
      show Steps p.tables e below (T82.setTop (mkF m 189 #[.val (.int p0), .val (.int p1), .val (.long q2), .second, .val (.long q3), .second, .val (.long q4), .second, .val (.long q5), .second, .val (.int v1), .val (.int v6), .val (.int v11), .val (.int v16), .val (.int kk), .val (.ref tg), .val (.int pp66), .val (.long wx), .second, .unset, .unset, .unset, .unset, .unset, .unset, .unset, .unset] [(.ref op), (.ref op)])) _
      refine XS.iconst X82.here hx rfl (hb hby at_189) ?_
      show Steps p.tables e below (T82.setTop (mkF m 190 #[.val (.int p0), .val (.int p1), .val (.long q2), .second, .val (.long q3), .second, .val (.long q4), .second, .val (.long q5), .second, .val (.int v1), .val (.int v6), .val (.int v11), .val (.int v16), .val (.int kk), .val (.ref tg), .val (.int pp66), .val (.long wx), .second, .unset, .unset, .unset, .unset, .unset, .unset, .unset, .unset] [(.int (3 : Int32)), (.ref op), (.ref op)])) _
      refine XS.lload X82.here hx rfl (hb hby at_190) rfl ?_
      show Steps p.tables e below (T82.setTop (mkF m 192 #[.val (.int p0), .val (.int p1), .val (.long q2), .second, .val (.long q3), .second, .val (.long q4), .second, .val (.long q5), .second, .val (.int v1), .val (.int v6), .val (.int v11), .val (.int v16), .val (.int kk), .val (.ref tg), .val (.int pp66), .val (.long wx), .second, .unset, .unset, .unset, .unset, .unset, .unset, .unset, .unset] [(.long wx), (.int (3 : Int32)), (.ref op), (.ref op)])) _
      refine st84 _ ?_
      show Steps p.tables e below (T84.setTop (mkF m 193 #[.val (.int p0), .val (.int p1), .val (.long q2), .second, .val (.long q3), .second, .val (.long q4), .second, .val (.long q5), .second, .val (.int v1), .val (.int v6), .val (.int v11), .val (.int v16), .val (.int kk), .val (.ref tg), .val (.int pp66), .val (.long wx), .second, .unset, .unset, .unset, .unset, .unset, .unset, .unset, .unset] [(.ref op)])) _
      refine XS.astore X84.here hx rfl (hb hby at_193) rfl rfl (l' := #[.val (.int p0), .val (.int p1), .val (.long q2), .second, .val (.long q3), .second, .val (.long q4), .second, .val (.long q5), .second, .val (.int v1), .val (.int v6), .val (.int v11), .val (.int v16), .val (.int kk), .val (.ref tg), .val (.int pp66), .val (.long wx), .second, .val (.ref op), .unset, .unset, .unset, .unset, .unset, .unset, .unset]) rfl ?_
      show Steps p.tables e below (T84.setTop (mkF m 195 #[.val (.int p0), .val (.int p1), .val (.long q2), .second, .val (.long q3), .second, .val (.long q4), .second, .val (.long q5), .second, .val (.int v1), .val (.int v6), .val (.int v11), .val (.int v16), .val (.int kk), .val (.ref tg), .val (.int pp66), .val (.long wx), .second, .val (.ref op), .unset, .unset, .unset, .unset, .unset, .unset, .unset] [])) _
      refine st86 _ ?_
      show Steps p.tables e below (T86.setTop (mkF m 198 #[.val (.int p0), .val (.int p1), .val (.long q2), .second, .val (.long q3), .second, .val (.long q4), .second, .val (.long q5), .second, .val (.int v1), .val (.int v6), .val (.int v11), .val (.int v16), .val (.int kk), .val (.ref tg), .val (.int pp66), .val (.long wx), .second, .val (.ref op), .unset, .unset, .unset, .unset, .unset, .unset, .unset] [(.ref sh)])) _
      refine XS.dup X86.here hx rfl (hb hby at_198) rfl rfl ?_
      show Steps p.tables e below (T86.setTop (mkF m 199 #[.val (.int p0), .val (.int p1), .val (.long q2), .second, .val (.long q3), .second, .val (.long q4), .second, .val (.long q5), .second, .val (.int v1), .val (.int v6), .val (.int v11), .val (.int v16), .val (.int kk), .val (.ref tg), .val (.int pp66), .val (.long wx), .second, .val (.ref op), .unset, .unset, .unset, .unset, .unset, .unset, .unset] [(.ref sh), (.ref sh)])) _
      refine XS.aload X86.here hx rfl (hb hby at_199) rfl rfl ?_
      show Steps p.tables e below (T86.setTop (mkF m 201 #[.val (.int p0), .val (.int p1), .val (.long q2), .second, .val (.long q3), .second, .val (.long q4), .second, .val (.long q5), .second, .val (.int v1), .val (.int v6), .val (.int v11), .val (.int v16), .val (.int kk), .val (.ref tg), .val (.int pp66), .val (.long wx), .second, .val (.ref op), .unset, .unset, .unset, .unset, .unset, .unset, .unset] [(.ref tg), (.ref sh), (.ref sh)])) _
      refine XS.lloadN X86.here hx rfl (hb hby at_201) rfl ?_
      show Steps p.tables e below (T86.setTop (mkF m 202 #[.val (.int p0), .val (.int p1), .val (.long q2), .second, .val (.long q3), .second, .val (.long q4), .second, .val (.long q5), .second, .val (.int v1), .val (.int v6), .val (.int v11), .val (.int v16), .val (.int kk), .val (.ref tg), .val (.int pp66), .val (.long wx), .second, .val (.ref op), .unset, .unset, .unset, .unset, .unset, .unset, .unset] [(.long q2), (.ref tg), (.ref sh), (.ref sh)])) _
      refine st94.trans ?_
      show Steps p.tables e below (T94.setTop (mkF m 205 #[.val (.int p0), .val (.int p1), .val (.long q2), .second, .val (.long q3), .second, .val (.long q4), .second, .val (.long q5), .second, .val (.int v1), .val (.int v6), .val (.int v11), .val (.int v16), .val (.int kk), .val (.ref tg), .val (.int pp66), .val (.long wx), .second, .val (.ref op), .unset, .unset, .unset, .unset, .unset, .unset, .unset] [(.ref sh)])) _
      refine XS.astore X94.here hx rfl (hb hby at_205) rfl rfl (l' := #[.val (.int p0), .val (.int p1), .val (.long q2), .second, .val (.long q3), .second, .val (.long q4), .second, .val (.long q5), .second, .val (.int v1), .val (.int v6), .val (.int v11), .val (.int v16), .val (.int kk), .val (.ref tg), .val (.int pp66), .val (.long wx), .second, .val (.ref op), .val (.ref sh), .unset, .unset, .unset, .unset, .unset, .unset]) rfl ?_
      show Steps p.tables e below (T94.setTop (mkF m 207 #[.val (.int p0), .val (.int p1), .val (.long q2), .second, .val (.long q3), .second, .val (.long q4), .second, .val (.long q5), .second, .val (.int v1), .val (.int v6), .val (.int v11), .val (.int v16), .val (.int kk), .val (.ref tg), .val (.int pp66), .val (.long wx), .second, .val (.ref op), .val (.ref sh), .unset, .unset, .unset, .unset, .unset, .unset] [])) _
      refine XS.aload X94.here hx rfl (hb hby at_207) rfl rfl ?_
      show Steps p.tables e below (T94.setTop (mkF m 209 #[.val (.int p0), .val (.int p1), .val (.long q2), .second, .val (.long q3), .second, .val (.long q4), .second, .val (.long q5), .second, .val (.int v1), .val (.int v6), .val (.int v11), .val (.int v16), .val (.int kk), .val (.ref tg), .val (.int pp66), .val (.long wx), .second, .val (.ref op), .val (.ref sh), .unset, .unset, .unset, .unset, .unset, .unset] [(.ref sh)])) _
      refine XS.aload X94.here hx rfl (hb hby at_209) rfl rfl ?_
      show Steps p.tables e below (T94.setTop (mkF m 211 #[.val (.int p0), .val (.int p1), .val (.long q2), .second, .val (.long q3), .second, .val (.long q4), .second, .val (.long q5), .second, .val (.int v1), .val (.int v6), .val (.int v11), .val (.int v16), .val (.int kk), .val (.ref tg), .val (.int pp66), .val (.long wx), .second, .val (.ref op), .val (.ref sh), .unset, .unset, .unset, .unset, .unset, .unset] [(.ref op), (.ref sh)])) _
      refine XS.iloadN X94.here hx rfl (hb hby at_211) rfl ?_
      show Steps p.tables e below (T94.setTop (mkF m 212 #[.val (.int p0), .val (.int p1), .val (.long q2), .second, .val (.long q3), .second, .val (.long q4), .second, .val (.long q5), .second, .val (.int v1), .val (.int v6), .val (.int v11), .val (.int v16), .val (.int kk), .val (.ref tg), .val (.int pp66), .val (.long wx), .second, .val (.ref op), .val (.ref sh), .unset, .unset, .unset, .unset, .unset, .unset] [(.int p1), (.ref op), (.ref sh)])) _
      refine st97.trans ?_
      show Steps p.tables e below (T97.setTop (mkF m 215 #[.val (.int p0), .val (.int p1), .val (.long q2), .second, .val (.long q3), .second, .val (.long q4), .second, .val (.long q5), .second, .val (.int v1), .val (.int v6), .val (.int v11), .val (.int v16), .val (.int kk), .val (.ref tg), .val (.int pp66), .val (.long wx), .second, .val (.ref op), .val (.ref sh), .unset, .unset, .unset, .unset, .unset, .unset] [])) _
      refine XS.iloadN X97.here hx rfl (hb hby at_215) rfl ?_
      show Steps p.tables e below (T97.setTop (mkF m 216 #[.val (.int p0), .val (.int p1), .val (.long q2), .second, .val (.long q3), .second, .val (.long q4), .second, .val (.long q5), .second, .val (.int v1), .val (.int v6), .val (.int v11), .val (.int v16), .val (.int kk), .val (.ref tg), .val (.int pp66), .val (.long wx), .second, .val (.ref op), .val (.ref sh), .unset, .unset, .unset, .unset, .unset, .unset] [(.int p1)])) _
      refine XS.i2l X97.here hx rfl (hb hby at_216) rfl ?_
      show Steps p.tables e below (T97.setTop (mkF m 217 #[.val (.int p0), .val (.int p1), .val (.long q2), .second, .val (.long q3), .second, .val (.long q4), .second, .val (.long q5), .second, .val (.int v1), .val (.int v6), .val (.int v11), .val (.int v16), .val (.int kk), .val (.ref tg), .val (.int pp66), .val (.long wx), .second, .val (.ref op), .val (.ref sh), .unset, .unset, .unset, .unset, .unset, .unset] [(.long (p1.toInt64))])) _
      refine XS.lloadN X97.here hx rfl (hb hby at_217) rfl ?_
      show Steps p.tables e below (T97.setTop (mkF m 218 #[.val (.int p0), .val (.int p1), .val (.long q2), .second, .val (.long q3), .second, .val (.long q4), .second, .val (.long q5), .second, .val (.int v1), .val (.int v6), .val (.int v11), .val (.int v16), .val (.int kk), .val (.ref tg), .val (.int pp66), .val (.long wx), .second, .val (.ref op), .val (.ref sh), .unset, .unset, .unset, .unset, .unset, .unset] [(.long q2), (.long (p1.toInt64))])) _
      refine XS.lmul X97.here hx rfl (hb hby at_218) rfl ?_
      show Steps p.tables e below (T97.setTop (mkF m 219 #[.val (.int p0), .val (.int p1), .val (.long q2), .second, .val (.long q3), .second, .val (.long q4), .second, .val (.long q5), .second, .val (.int v1), .val (.int v6), .val (.int v11), .val (.int v16), .val (.int kk), .val (.ref tg), .val (.int pp66), .val (.long wx), .second, .val (.ref op), .val (.ref sh), .unset, .unset, .unset, .unset, .unset, .unset] [(.long ((p1.toInt64) * q2))])) _
      refine XS.lstore X97.here hx rfl (hb hby at_219) rfl (l' := #[.val (.int p0), .val (.int p1), .val (.long q2), .second, .val (.long q3), .second, .val (.long q4), .second, .val (.long q5), .second, .val (.int v1), .val (.int v6), .val (.int v11), .val (.int v16), .val (.int kk), .val (.ref tg), .val (.int pp66), .val (.long wx), .second, .val (.ref op), .val (.ref sh), .val (.long ((p1.toInt64) * q2)), .second, .unset, .unset, .unset, .unset]) rfl ?_
      show Steps p.tables e below (T97.setTop (mkF m 221 #[.val (.int p0), .val (.int p1), .val (.long q2), .second, .val (.long q3), .second, .val (.long q4), .second, .val (.long q5), .second, .val (.int v1), .val (.int v6), .val (.int v11), .val (.int v16), .val (.int kk), .val (.ref tg), .val (.int pp66), .val (.long wx), .second, .val (.ref op), .val (.ref sh), .val (.long ((p1.toInt64) * q2)), .second, .unset, .unset, .unset, .unset] [])) _
      exact k_)
  obtain ⟨r103, hv103, pre103⟩ : ∃ (r103 : Int64), (r103 = (if v1 = 0 then q3 else q3 + p1.toInt64 * q2)) ∧ ∀ t_, Steps p.tables e below (T97.setTop (mkF m 240 #[.val (.int p0), .val (.int p1), .val (.long q2), .second, .val (.long q3), .second, .val (.long q4), .second, .val (.long q5), .second, .val (.int v1), .val (.int v6), .val (.int v11), .val (.int v16), .val (.int kk), .val (.ref tg), .val (.int pp66), .val (.long wx), .second, .val (.ref op), .val (.ref sh), .val (.long ((p1.toInt64) * q2)), .second, .unset, .unset, .unset, .unset] [(.long r103), (.long (own_off (p1.toInt64 * q2) (own_g q3 q4 q5 wx) (own_ts v1 v6 v11 v16) 0))])) t_ → Steps p.tables e below (s₁.setTop (entryFrame m #[(.int p0), (.int p1), (.long q2), (.long q3), (.long q4), (.long q5)] maxLocals)) t_ := by
    have pre104 : ∀ t_, Steps p.tables e below (T97.setTop (mkF m 227 #[.val (.int p0), .val (.int p1), .val (.long q2), .second, .val (.long q3), .second, .val (.long q4), .second, .val (.long q5), .second, .val (.int v1), .val (.int v6), .val (.int v11), .val (.int v16), .val (.int kk), .val (.ref tg), .val (.int pp66), .val (.long wx), .second, .val (.ref op), .val (.ref sh), .val (.long ((p1.toInt64) * q2)), .second, .unset, .unset, .unset, .unset] [(.int v1), (.long (own_off (p1.toInt64 * q2) (own_g q3 q4 q5 wx) (own_ts v1 v6 v11 v16) 0))])) t_ → Steps p.tables e below (s₁.setTop (entryFrame m #[(.int p0), (.int p1), (.long q2), (.long q3), (.long q4), (.long q5)] maxLocals)) t_ := fun t_ k_ => pre102 t_ (by
        refine XS.aload X97.here hx rfl (hb hby at_221) rfl rfl ?_
        show Steps p.tables e below (T97.setTop (mkF m 223 #[.val (.int p0), .val (.int p1), .val (.long q2), .second, .val (.long q3), .second, .val (.long q4), .second, .val (.long q5), .second, .val (.int v1), .val (.int v6), .val (.int v11), .val (.int v16), .val (.int kk), .val (.ref tg), .val (.int pp66), .val (.long wx), .second, .val (.ref op), .val (.ref sh), .val (.long ((p1.toInt64) * q2)), .second, .unset, .unset, .unset, .unset] [(.ref op)])) _
        refine XS.iconst X97.here hx rfl (hb hby at_223) ?_
        show Steps p.tables e below (T97.setTop (mkF m 224 #[.val (.int p0), .val (.int p1), .val (.long q2), .second, .val (.long q3), .second, .val (.long q4), .second, .val (.long q5), .second, .val (.int v1), .val (.int v6), .val (.int v11), .val (.int v16), .val (.int kk), .val (.ref tg), .val (.int pp66), .val (.long wx), .second, .val (.ref op), .val (.ref sh), .val (.long ((p1.toInt64) * q2)), .second, .unset, .unset, .unset, .unset] [(.int (0 : Int32)), (.ref op)])) _
        refine oLdJ X97 hx hZ rfl A97q (k := 0) rfl (by decide) (v := (own_off (p1.toInt64 * q2) (own_g q3 q4 q5 wx) (own_ts v1 v6 v11 v16) 0)) rfl (g := (mkF m 224 #[.val (.int p0), .val (.int p1), .val (.long q2), .second, .val (.long q3), .second, .val (.long q4), .second, .val (.long q5), .second, .val (.int v1), .val (.int v6), .val (.int v11), .val (.int v16), .val (.int kk), .val (.ref tg), .val (.int pp66), .val (.long wx), .second, .val (.ref op), .val (.ref sh), .val (.long ((p1.toInt64) * q2)), .second, .unset, .unset, .unset, .unset] [(.int (0 : Int32)), (.ref op)])) rfl rfl (hb hby at_224) _ ?_
        show Steps p.tables e below (T97.setTop (mkF m 225 #[.val (.int p0), .val (.int p1), .val (.long q2), .second, .val (.long q3), .second, .val (.long q4), .second, .val (.long q5), .second, .val (.int v1), .val (.int v6), .val (.int v11), .val (.int v16), .val (.int kk), .val (.ref tg), .val (.int pp66), .val (.long wx), .second, .val (.ref op), .val (.ref sh), .val (.long ((p1.toInt64) * q2)), .second, .unset, .unset, .unset, .unset] [(.long (own_off (p1.toInt64 * q2) (own_g q3 q4 q5 wx) (own_ts v1 v6 v11 v16) 0))])) _
        refine XS.iload X97.here hx rfl (hb hby at_225) rfl ?_
        show Steps p.tables e below (T97.setTop (mkF m 227 #[.val (.int p0), .val (.int p1), .val (.long q2), .second, .val (.long q3), .second, .val (.long q4), .second, .val (.long q5), .second, .val (.int v1), .val (.int v6), .val (.int v11), .val (.int v16), .val (.int kk), .val (.ref tg), .val (.int pp66), .val (.long wx), .second, .val (.ref op), .val (.ref sh), .val (.long ((p1.toInt64) * q2)), .second, .unset, .unset, .unset, .unset] [(.int v1), (.long (own_off (p1.toInt64 * q2) (own_g q3 q4 q5 wx) (own_ts v1 v6 v11 v16) 0))])) _
        exact k_)
    by_cases c227_105 : v1 = (0 : Int32)
    · have pre106 : ∀ t_, Steps p.tables e below (T97.setTop (mkF m 240 #[.val (.int p0), .val (.int p1), .val (.long q2), .second, .val (.long q3), .second, .val (.long q4), .second, .val (.long q5), .second, .val (.int v1), .val (.int v6), .val (.int v11), .val (.int v16), .val (.int kk), .val (.ref tg), .val (.int pp66), .val (.long wx), .second, .val (.ref op), .val (.ref sh), .val (.long ((p1.toInt64) * q2)), .second, .unset, .unset, .unset, .unset] [(.long q3), (.long (own_off (p1.toInt64 * q2) (own_g q3 q4 q5 wx) (own_ts v1 v6 v11 v16) 0))])) t_ → Steps p.tables e below (s₁.setTop (entryFrame m #[(.int p0), (.int p1), (.long q2), (.long q3), (.long q4), (.long q5)] maxLocals)) t_ := fun t_ k_ => pre104 t_ (by
          refine XS.ifYes X97.here hx rfl (pc0 := 227) (pc' := 238) rfl (hb hby at_227) rfl ((if0 _ _).trans (teq c227_105).1) (by decide) (by decide) ?_
          show Steps p.tables e below (T97.setTop (mkF m 238 #[.val (.int p0), .val (.int p1), .val (.long q2), .second, .val (.long q3), .second, .val (.long q4), .second, .val (.long q5), .second, .val (.int v1), .val (.int v6), .val (.int v11), .val (.int v16), .val (.int kk), .val (.ref tg), .val (.int pp66), .val (.long wx), .second, .val (.ref op), .val (.ref sh), .val (.long ((p1.toInt64) * q2)), .second, .unset, .unset, .unset, .unset] [(.long (own_off (p1.toInt64 * q2) (own_g q3 q4 q5 wx) (own_ts v1 v6 v11 v16) 0))])) _
          refine XS.lload X97.here hx rfl (hb hby at_238) rfl ?_
          show Steps p.tables e below (T97.setTop (mkF m 240 #[.val (.int p0), .val (.int p1), .val (.long q2), .second, .val (.long q3), .second, .val (.long q4), .second, .val (.long q5), .second, .val (.int v1), .val (.int v6), .val (.int v11), .val (.int v16), .val (.int kk), .val (.ref tg), .val (.int pp66), .val (.long wx), .second, .val (.ref op), .val (.ref sh), .val (.long ((p1.toInt64) * q2)), .second, .unset, .unset, .unset, .unset] [(.long q3), (.long (own_off (p1.toInt64 * q2) (own_g q3 q4 q5 wx) (own_ts v1 v6 v11 v16) 0))])) _
          exact k_)
      exact ⟨q3, (if_pos c227_105).symm, pre106⟩
    · have pre107 : ∀ t_, Steps p.tables e below (T97.setTop (mkF m 240 #[.val (.int p0), .val (.int p1), .val (.long q2), .second, .val (.long q3), .second, .val (.long q4), .second, .val (.long q5), .second, .val (.int v1), .val (.int v6), .val (.int v11), .val (.int v16), .val (.int kk), .val (.ref tg), .val (.int pp66), .val (.long wx), .second, .val (.ref op), .val (.ref sh), .val (.long ((p1.toInt64) * q2)), .second, .unset, .unset, .unset, .unset] [(.long (q3 + ((p1.toInt64) * q2))), (.long (own_off (p1.toInt64 * q2) (own_g q3 q4 q5 wx) (own_ts v1 v6 v11 v16) 0))])) t_ → Steps p.tables e below (s₁.setTop (entryFrame m #[(.int p0), (.int p1), (.long q2), (.long q3), (.long q4), (.long q5)] maxLocals)) t_ := fun t_ k_ => pre104 t_ (by
          refine XS.ifNo X97.here hx rfl (hb hby at_227) rfl ((if0 _ _).trans (feq c227_105).1) ?_
          show Steps p.tables e below (T97.setTop (mkF m 230 #[.val (.int p0), .val (.int p1), .val (.long q2), .second, .val (.long q3), .second, .val (.long q4), .second, .val (.long q5), .second, .val (.int v1), .val (.int v6), .val (.int v11), .val (.int v16), .val (.int kk), .val (.ref tg), .val (.int pp66), .val (.long wx), .second, .val (.ref op), .val (.ref sh), .val (.long ((p1.toInt64) * q2)), .second, .unset, .unset, .unset, .unset] [(.long (own_off (p1.toInt64 * q2) (own_g q3 q4 q5 wx) (own_ts v1 v6 v11 v16) 0))])) _
          refine XS.lload X97.here hx rfl (hb hby at_230) rfl ?_
          show Steps p.tables e below (T97.setTop (mkF m 232 #[.val (.int p0), .val (.int p1), .val (.long q2), .second, .val (.long q3), .second, .val (.long q4), .second, .val (.long q5), .second, .val (.int v1), .val (.int v6), .val (.int v11), .val (.int v16), .val (.int kk), .val (.ref tg), .val (.int pp66), .val (.long wx), .second, .val (.ref op), .val (.ref sh), .val (.long ((p1.toInt64) * q2)), .second, .unset, .unset, .unset, .unset] [(.long q3), (.long (own_off (p1.toInt64 * q2) (own_g q3 q4 q5 wx) (own_ts v1 v6 v11 v16) 0))])) _
          refine XS.lload X97.here hx rfl (hb hby at_232) rfl ?_
          show Steps p.tables e below (T97.setTop (mkF m 234 #[.val (.int p0), .val (.int p1), .val (.long q2), .second, .val (.long q3), .second, .val (.long q4), .second, .val (.long q5), .second, .val (.int v1), .val (.int v6), .val (.int v11), .val (.int v16), .val (.int kk), .val (.ref tg), .val (.int pp66), .val (.long wx), .second, .val (.ref op), .val (.ref sh), .val (.long ((p1.toInt64) * q2)), .second, .unset, .unset, .unset, .unset] [(.long ((p1.toInt64) * q2)), (.long q3), (.long (own_off (p1.toInt64 * q2) (own_g q3 q4 q5 wx) (own_ts v1 v6 v11 v16) 0))])) _
          refine XS.ladd X97.here hx rfl (hb hby at_234) rfl ?_
          show Steps p.tables e below (T97.setTop (mkF m 235 #[.val (.int p0), .val (.int p1), .val (.long q2), .second, .val (.long q3), .second, .val (.long q4), .second, .val (.long q5), .second, .val (.int v1), .val (.int v6), .val (.int v11), .val (.int v16), .val (.int kk), .val (.ref tg), .val (.int pp66), .val (.long wx), .second, .val (.ref op), .val (.ref sh), .val (.long ((p1.toInt64) * q2)), .second, .unset, .unset, .unset, .unset] [(.long (q3 + ((p1.toInt64) * q2))), (.long (own_off (p1.toInt64 * q2) (own_g q3 q4 q5 wx) (own_ts v1 v6 v11 v16) 0))])) _
          refine XS.goto X97.here hx rfl (pc0 := 235) (pc' := 240) rfl (hb hby at_235) (by decide) (by decide) ?_
          show Steps p.tables e below (T97.setTop (mkF m 240 #[.val (.int p0), .val (.int p1), .val (.long q2), .second, .val (.long q3), .second, .val (.long q4), .second, .val (.long q5), .second, .val (.int v1), .val (.int v6), .val (.int v11), .val (.int v16), .val (.int kk), .val (.ref tg), .val (.int pp66), .val (.long wx), .second, .val (.ref op), .val (.ref sh), .val (.long ((p1.toInt64) * q2)), .second, .unset, .unset, .unset, .unset] [(.long (q3 + ((p1.toInt64) * q2))), (.long (own_off (p1.toInt64 * q2) (own_g q3 q4 q5 wx) (own_ts v1 v6 v11 v16) 0))])) _
          exact k_)
      exact ⟨(q3 + ((p1.toInt64) * q2)), (if_neg c227_105).symm, pre107⟩
  have pre108 : ∀ t_, Steps p.tables e below (T97.setTop (mkF m 251 #[.val (.int p0), .val (.int p1), .val (.long q2), .second, .val (.long q3), .second, .val (.long q4), .second, .val (.long q5), .second, .val (.int v1), .val (.int v6), .val (.int v11), .val (.int v16), .val (.int kk), .val (.ref tg), .val (.int pp66), .val (.long wx), .second, .val (.ref op), .val (.ref sh), .val (.long ((p1.toInt64) * q2)), .second, .val (.int (1 : Int32)), .unset, .unset, .unset] [])) t_ → Steps p.tables e below (s₁.setTop (entryFrame m #[(.int p0), (.int p1), (.long q2), (.long q3), (.long q4), (.long q5)] maxLocals)) t_ := fun t_ k_ => pre103 t_ (by
      refine XS.lcmp X97.here hx rfl (hb hby at_240) rfl ?_
      show Steps p.tables e below (T97.setTop (mkF m 241 #[.val (.int p0), .val (.int p1), .val (.long q2), .second, .val (.long q3), .second, .val (.long q4), .second, .val (.long q5), .second, .val (.int v1), .val (.int v6), .val (.int v11), .val (.int v16), .val (.int kk), .val (.ref tg), .val (.int pp66), .val (.long wx), .second, .val (.ref op), .val (.ref sh), .val (.long ((p1.toInt64) * q2)), .second, .unset, .unset, .unset, .unset] [(.int (lcmpW (own_off (p1.toInt64 * q2) (own_g q3 q4 q5 wx) (own_ts v1 v6 v11 v16) 0) r103))])) _
      refine XS.ifNo X97.here hx rfl (hb hby at_241) rfl ((if0 _ _).trans (teq (own_lc ((own_res (p1.toInt64 * q2) q3 q4 q5 wx v1 v6 v11 v16).1.trans hv103.symm))).2) ?_
      show Steps p.tables e below (T97.setTop (mkF m 244 #[.val (.int p0), .val (.int p1), .val (.long q2), .second, .val (.long q3), .second, .val (.long q4), .second, .val (.long q5), .second, .val (.int v1), .val (.int v6), .val (.int v11), .val (.int v16), .val (.int kk), .val (.ref tg), .val (.int pp66), .val (.long wx), .second, .val (.ref op), .val (.ref sh), .val (.long ((p1.toInt64) * q2)), .second, .unset, .unset, .unset, .unset] [])) _
      refine XS.iconst X97.here hx rfl (hb hby at_244) ?_
      show Steps p.tables e below (T97.setTop (mkF m 245 #[.val (.int p0), .val (.int p1), .val (.long q2), .second, .val (.long q3), .second, .val (.long q4), .second, .val (.long q5), .second, .val (.int v1), .val (.int v6), .val (.int v11), .val (.int v16), .val (.int kk), .val (.ref tg), .val (.int pp66), .val (.long wx), .second, .val (.ref op), .val (.ref sh), .val (.long ((p1.toInt64) * q2)), .second, .unset, .unset, .unset, .unset] [(.int (1 : Int32))])) _
      refine XS.goto X97.here hx rfl (pc0 := 245) (pc' := 249) rfl (hb hby at_245) (by decide) (by decide) ?_
      show Steps p.tables e below (T97.setTop (mkF m 249 #[.val (.int p0), .val (.int p1), .val (.long q2), .second, .val (.long q3), .second, .val (.long q4), .second, .val (.long q5), .second, .val (.int v1), .val (.int v6), .val (.int v11), .val (.int v16), .val (.int kk), .val (.ref tg), .val (.int pp66), .val (.long wx), .second, .val (.ref op), .val (.ref sh), .val (.long ((p1.toInt64) * q2)), .second, .unset, .unset, .unset, .unset] [(.int (1 : Int32))])) _
      refine XS.istore X97.here hx rfl (hb hby at_249) rfl (l' := #[.val (.int p0), .val (.int p1), .val (.long q2), .second, .val (.long q3), .second, .val (.long q4), .second, .val (.long q5), .second, .val (.int v1), .val (.int v6), .val (.int v11), .val (.int v16), .val (.int kk), .val (.ref tg), .val (.int pp66), .val (.long wx), .second, .val (.ref op), .val (.ref sh), .val (.long ((p1.toInt64) * q2)), .second, .val (.int (1 : Int32)), .unset, .unset, .unset]) rfl ?_
      show Steps p.tables e below (T97.setTop (mkF m 251 #[.val (.int p0), .val (.int p1), .val (.long q2), .second, .val (.long q3), .second, .val (.long q4), .second, .val (.long q5), .second, .val (.int v1), .val (.int v6), .val (.int v11), .val (.int v16), .val (.int kk), .val (.ref tg), .val (.int pp66), .val (.long wx), .second, .val (.ref op), .val (.ref sh), .val (.long ((p1.toInt64) * q2)), .second, .val (.int (1 : Int32)), .unset, .unset, .unset] [])) _
      exact k_)
  obtain ⟨r109, hv109, pre109⟩ : ∃ (r109 : Int64), (r109 = (if v6 = 0 then q4 else q4 + p1.toInt64 * q2)) ∧ ∀ t_, Steps p.tables e below (T97.setTop (mkF m 270 #[.val (.int p0), .val (.int p1), .val (.long q2), .second, .val (.long q3), .second, .val (.long q4), .second, .val (.long q5), .second, .val (.int v1), .val (.int v6), .val (.int v11), .val (.int v16), .val (.int kk), .val (.ref tg), .val (.int pp66), .val (.long wx), .second, .val (.ref op), .val (.ref sh), .val (.long ((p1.toInt64) * q2)), .second, .val (.int (1 : Int32)), .unset, .unset, .unset] [(.long r109), (.long (own_off (p1.toInt64 * q2) (own_g q3 q4 q5 wx) (own_ts v1 v6 v11 v16) 1))])) t_ → Steps p.tables e below (s₁.setTop (entryFrame m #[(.int p0), (.int p1), (.long q2), (.long q3), (.long q4), (.long q5)] maxLocals)) t_ := by
    have pre110 : ∀ t_, Steps p.tables e below (T97.setTop (mkF m 257 #[.val (.int p0), .val (.int p1), .val (.long q2), .second, .val (.long q3), .second, .val (.long q4), .second, .val (.long q5), .second, .val (.int v1), .val (.int v6), .val (.int v11), .val (.int v16), .val (.int kk), .val (.ref tg), .val (.int pp66), .val (.long wx), .second, .val (.ref op), .val (.ref sh), .val (.long ((p1.toInt64) * q2)), .second, .val (.int (1 : Int32)), .unset, .unset, .unset] [(.int v6), (.long (own_off (p1.toInt64 * q2) (own_g q3 q4 q5 wx) (own_ts v1 v6 v11 v16) 1))])) t_ → Steps p.tables e below (s₁.setTop (entryFrame m #[(.int p0), (.int p1), (.long q2), (.long q3), (.long q4), (.long q5)] maxLocals)) t_ := fun t_ k_ => pre108 t_ (by
        refine XS.aload X97.here hx rfl (hb hby at_251) rfl rfl ?_
        show Steps p.tables e below (T97.setTop (mkF m 253 #[.val (.int p0), .val (.int p1), .val (.long q2), .second, .val (.long q3), .second, .val (.long q4), .second, .val (.long q5), .second, .val (.int v1), .val (.int v6), .val (.int v11), .val (.int v16), .val (.int kk), .val (.ref tg), .val (.int pp66), .val (.long wx), .second, .val (.ref op), .val (.ref sh), .val (.long ((p1.toInt64) * q2)), .second, .val (.int (1 : Int32)), .unset, .unset, .unset] [(.ref op)])) _
        refine XS.iconst X97.here hx rfl (hb hby at_253) ?_
        show Steps p.tables e below (T97.setTop (mkF m 254 #[.val (.int p0), .val (.int p1), .val (.long q2), .second, .val (.long q3), .second, .val (.long q4), .second, .val (.long q5), .second, .val (.int v1), .val (.int v6), .val (.int v11), .val (.int v16), .val (.int kk), .val (.ref tg), .val (.int pp66), .val (.long wx), .second, .val (.ref op), .val (.ref sh), .val (.long ((p1.toInt64) * q2)), .second, .val (.int (1 : Int32)), .unset, .unset, .unset] [(.int (1 : Int32)), (.ref op)])) _
        refine oLdJ X97 hx hZ rfl A97q (k := 1) rfl (by decide) (v := (own_off (p1.toInt64 * q2) (own_g q3 q4 q5 wx) (own_ts v1 v6 v11 v16) 1)) rfl (g := (mkF m 254 #[.val (.int p0), .val (.int p1), .val (.long q2), .second, .val (.long q3), .second, .val (.long q4), .second, .val (.long q5), .second, .val (.int v1), .val (.int v6), .val (.int v11), .val (.int v16), .val (.int kk), .val (.ref tg), .val (.int pp66), .val (.long wx), .second, .val (.ref op), .val (.ref sh), .val (.long ((p1.toInt64) * q2)), .second, .val (.int (1 : Int32)), .unset, .unset, .unset] [(.int (1 : Int32)), (.ref op)])) rfl rfl (hb hby at_254) _ ?_
        show Steps p.tables e below (T97.setTop (mkF m 255 #[.val (.int p0), .val (.int p1), .val (.long q2), .second, .val (.long q3), .second, .val (.long q4), .second, .val (.long q5), .second, .val (.int v1), .val (.int v6), .val (.int v11), .val (.int v16), .val (.int kk), .val (.ref tg), .val (.int pp66), .val (.long wx), .second, .val (.ref op), .val (.ref sh), .val (.long ((p1.toInt64) * q2)), .second, .val (.int (1 : Int32)), .unset, .unset, .unset] [(.long (own_off (p1.toInt64 * q2) (own_g q3 q4 q5 wx) (own_ts v1 v6 v11 v16) 1))])) _
        refine XS.iload X97.here hx rfl (hb hby at_255) rfl ?_
        show Steps p.tables e below (T97.setTop (mkF m 257 #[.val (.int p0), .val (.int p1), .val (.long q2), .second, .val (.long q3), .second, .val (.long q4), .second, .val (.long q5), .second, .val (.int v1), .val (.int v6), .val (.int v11), .val (.int v16), .val (.int kk), .val (.ref tg), .val (.int pp66), .val (.long wx), .second, .val (.ref op), .val (.ref sh), .val (.long ((p1.toInt64) * q2)), .second, .val (.int (1 : Int32)), .unset, .unset, .unset] [(.int v6), (.long (own_off (p1.toInt64 * q2) (own_g q3 q4 q5 wx) (own_ts v1 v6 v11 v16) 1))])) _
        exact k_)
    by_cases c257_111 : v6 = (0 : Int32)
    · have pre112 : ∀ t_, Steps p.tables e below (T97.setTop (mkF m 270 #[.val (.int p0), .val (.int p1), .val (.long q2), .second, .val (.long q3), .second, .val (.long q4), .second, .val (.long q5), .second, .val (.int v1), .val (.int v6), .val (.int v11), .val (.int v16), .val (.int kk), .val (.ref tg), .val (.int pp66), .val (.long wx), .second, .val (.ref op), .val (.ref sh), .val (.long ((p1.toInt64) * q2)), .second, .val (.int (1 : Int32)), .unset, .unset, .unset] [(.long q4), (.long (own_off (p1.toInt64 * q2) (own_g q3 q4 q5 wx) (own_ts v1 v6 v11 v16) 1))])) t_ → Steps p.tables e below (s₁.setTop (entryFrame m #[(.int p0), (.int p1), (.long q2), (.long q3), (.long q4), (.long q5)] maxLocals)) t_ := fun t_ k_ => pre110 t_ (by
          refine XS.ifYes X97.here hx rfl (pc0 := 257) (pc' := 268) rfl (hb hby at_257) rfl ((if0 _ _).trans (teq c257_111).1) (by decide) (by decide) ?_
          show Steps p.tables e below (T97.setTop (mkF m 268 #[.val (.int p0), .val (.int p1), .val (.long q2), .second, .val (.long q3), .second, .val (.long q4), .second, .val (.long q5), .second, .val (.int v1), .val (.int v6), .val (.int v11), .val (.int v16), .val (.int kk), .val (.ref tg), .val (.int pp66), .val (.long wx), .second, .val (.ref op), .val (.ref sh), .val (.long ((p1.toInt64) * q2)), .second, .val (.int (1 : Int32)), .unset, .unset, .unset] [(.long (own_off (p1.toInt64 * q2) (own_g q3 q4 q5 wx) (own_ts v1 v6 v11 v16) 1))])) _
          refine XS.lload X97.here hx rfl (hb hby at_268) rfl ?_
          show Steps p.tables e below (T97.setTop (mkF m 270 #[.val (.int p0), .val (.int p1), .val (.long q2), .second, .val (.long q3), .second, .val (.long q4), .second, .val (.long q5), .second, .val (.int v1), .val (.int v6), .val (.int v11), .val (.int v16), .val (.int kk), .val (.ref tg), .val (.int pp66), .val (.long wx), .second, .val (.ref op), .val (.ref sh), .val (.long ((p1.toInt64) * q2)), .second, .val (.int (1 : Int32)), .unset, .unset, .unset] [(.long q4), (.long (own_off (p1.toInt64 * q2) (own_g q3 q4 q5 wx) (own_ts v1 v6 v11 v16) 1))])) _
          exact k_)
      exact ⟨q4, (if_pos c257_111).symm, pre112⟩
    · have pre113 : ∀ t_, Steps p.tables e below (T97.setTop (mkF m 270 #[.val (.int p0), .val (.int p1), .val (.long q2), .second, .val (.long q3), .second, .val (.long q4), .second, .val (.long q5), .second, .val (.int v1), .val (.int v6), .val (.int v11), .val (.int v16), .val (.int kk), .val (.ref tg), .val (.int pp66), .val (.long wx), .second, .val (.ref op), .val (.ref sh), .val (.long ((p1.toInt64) * q2)), .second, .val (.int (1 : Int32)), .unset, .unset, .unset] [(.long (q4 + ((p1.toInt64) * q2))), (.long (own_off (p1.toInt64 * q2) (own_g q3 q4 q5 wx) (own_ts v1 v6 v11 v16) 1))])) t_ → Steps p.tables e below (s₁.setTop (entryFrame m #[(.int p0), (.int p1), (.long q2), (.long q3), (.long q4), (.long q5)] maxLocals)) t_ := fun t_ k_ => pre110 t_ (by
          refine XS.ifNo X97.here hx rfl (hb hby at_257) rfl ((if0 _ _).trans (feq c257_111).1) ?_
          show Steps p.tables e below (T97.setTop (mkF m 260 #[.val (.int p0), .val (.int p1), .val (.long q2), .second, .val (.long q3), .second, .val (.long q4), .second, .val (.long q5), .second, .val (.int v1), .val (.int v6), .val (.int v11), .val (.int v16), .val (.int kk), .val (.ref tg), .val (.int pp66), .val (.long wx), .second, .val (.ref op), .val (.ref sh), .val (.long ((p1.toInt64) * q2)), .second, .val (.int (1 : Int32)), .unset, .unset, .unset] [(.long (own_off (p1.toInt64 * q2) (own_g q3 q4 q5 wx) (own_ts v1 v6 v11 v16) 1))])) _
          refine XS.lload X97.here hx rfl (hb hby at_260) rfl ?_
          show Steps p.tables e below (T97.setTop (mkF m 262 #[.val (.int p0), .val (.int p1), .val (.long q2), .second, .val (.long q3), .second, .val (.long q4), .second, .val (.long q5), .second, .val (.int v1), .val (.int v6), .val (.int v11), .val (.int v16), .val (.int kk), .val (.ref tg), .val (.int pp66), .val (.long wx), .second, .val (.ref op), .val (.ref sh), .val (.long ((p1.toInt64) * q2)), .second, .val (.int (1 : Int32)), .unset, .unset, .unset] [(.long q4), (.long (own_off (p1.toInt64 * q2) (own_g q3 q4 q5 wx) (own_ts v1 v6 v11 v16) 1))])) _
          refine XS.lload X97.here hx rfl (hb hby at_262) rfl ?_
          show Steps p.tables e below (T97.setTop (mkF m 264 #[.val (.int p0), .val (.int p1), .val (.long q2), .second, .val (.long q3), .second, .val (.long q4), .second, .val (.long q5), .second, .val (.int v1), .val (.int v6), .val (.int v11), .val (.int v16), .val (.int kk), .val (.ref tg), .val (.int pp66), .val (.long wx), .second, .val (.ref op), .val (.ref sh), .val (.long ((p1.toInt64) * q2)), .second, .val (.int (1 : Int32)), .unset, .unset, .unset] [(.long ((p1.toInt64) * q2)), (.long q4), (.long (own_off (p1.toInt64 * q2) (own_g q3 q4 q5 wx) (own_ts v1 v6 v11 v16) 1))])) _
          refine XS.ladd X97.here hx rfl (hb hby at_264) rfl ?_
          show Steps p.tables e below (T97.setTop (mkF m 265 #[.val (.int p0), .val (.int p1), .val (.long q2), .second, .val (.long q3), .second, .val (.long q4), .second, .val (.long q5), .second, .val (.int v1), .val (.int v6), .val (.int v11), .val (.int v16), .val (.int kk), .val (.ref tg), .val (.int pp66), .val (.long wx), .second, .val (.ref op), .val (.ref sh), .val (.long ((p1.toInt64) * q2)), .second, .val (.int (1 : Int32)), .unset, .unset, .unset] [(.long (q4 + ((p1.toInt64) * q2))), (.long (own_off (p1.toInt64 * q2) (own_g q3 q4 q5 wx) (own_ts v1 v6 v11 v16) 1))])) _
          refine XS.goto X97.here hx rfl (pc0 := 265) (pc' := 270) rfl (hb hby at_265) (by decide) (by decide) ?_
          show Steps p.tables e below (T97.setTop (mkF m 270 #[.val (.int p0), .val (.int p1), .val (.long q2), .second, .val (.long q3), .second, .val (.long q4), .second, .val (.long q5), .second, .val (.int v1), .val (.int v6), .val (.int v11), .val (.int v16), .val (.int kk), .val (.ref tg), .val (.int pp66), .val (.long wx), .second, .val (.ref op), .val (.ref sh), .val (.long ((p1.toInt64) * q2)), .second, .val (.int (1 : Int32)), .unset, .unset, .unset] [(.long (q4 + ((p1.toInt64) * q2))), (.long (own_off (p1.toInt64 * q2) (own_g q3 q4 q5 wx) (own_ts v1 v6 v11 v16) 1))])) _
          exact k_)
      exact ⟨(q4 + ((p1.toInt64) * q2)), (if_neg c257_111).symm, pre113⟩
  have pre114 : ∀ t_, Steps p.tables e below (T97.setTop (mkF m 281 #[.val (.int p0), .val (.int p1), .val (.long q2), .second, .val (.long q3), .second, .val (.long q4), .second, .val (.long q5), .second, .val (.int v1), .val (.int v6), .val (.int v11), .val (.int v16), .val (.int kk), .val (.ref tg), .val (.int pp66), .val (.long wx), .second, .val (.ref op), .val (.ref sh), .val (.long ((p1.toInt64) * q2)), .second, .val (.int (1 : Int32)), .val (.int (1 : Int32)), .unset, .unset] [])) t_ → Steps p.tables e below (s₁.setTop (entryFrame m #[(.int p0), (.int p1), (.long q2), (.long q3), (.long q4), (.long q5)] maxLocals)) t_ := fun t_ k_ => pre109 t_ (by
      refine XS.lcmp X97.here hx rfl (hb hby at_270) rfl ?_
      show Steps p.tables e below (T97.setTop (mkF m 271 #[.val (.int p0), .val (.int p1), .val (.long q2), .second, .val (.long q3), .second, .val (.long q4), .second, .val (.long q5), .second, .val (.int v1), .val (.int v6), .val (.int v11), .val (.int v16), .val (.int kk), .val (.ref tg), .val (.int pp66), .val (.long wx), .second, .val (.ref op), .val (.ref sh), .val (.long ((p1.toInt64) * q2)), .second, .val (.int (1 : Int32)), .unset, .unset, .unset] [(.int (lcmpW (own_off (p1.toInt64 * q2) (own_g q3 q4 q5 wx) (own_ts v1 v6 v11 v16) 1) r109))])) _
      refine XS.ifNo X97.here hx rfl (hb hby at_271) rfl ((if0 _ _).trans (teq (own_lc ((own_res (p1.toInt64 * q2) q3 q4 q5 wx v1 v6 v11 v16).2.1.trans hv109.symm))).2) ?_
      show Steps p.tables e below (T97.setTop (mkF m 274 #[.val (.int p0), .val (.int p1), .val (.long q2), .second, .val (.long q3), .second, .val (.long q4), .second, .val (.long q5), .second, .val (.int v1), .val (.int v6), .val (.int v11), .val (.int v16), .val (.int kk), .val (.ref tg), .val (.int pp66), .val (.long wx), .second, .val (.ref op), .val (.ref sh), .val (.long ((p1.toInt64) * q2)), .second, .val (.int (1 : Int32)), .unset, .unset, .unset] [])) _
      refine XS.iconst X97.here hx rfl (hb hby at_274) ?_
      show Steps p.tables e below (T97.setTop (mkF m 275 #[.val (.int p0), .val (.int p1), .val (.long q2), .second, .val (.long q3), .second, .val (.long q4), .second, .val (.long q5), .second, .val (.int v1), .val (.int v6), .val (.int v11), .val (.int v16), .val (.int kk), .val (.ref tg), .val (.int pp66), .val (.long wx), .second, .val (.ref op), .val (.ref sh), .val (.long ((p1.toInt64) * q2)), .second, .val (.int (1 : Int32)), .unset, .unset, .unset] [(.int (1 : Int32))])) _
      refine XS.goto X97.here hx rfl (pc0 := 275) (pc' := 279) rfl (hb hby at_275) (by decide) (by decide) ?_
      show Steps p.tables e below (T97.setTop (mkF m 279 #[.val (.int p0), .val (.int p1), .val (.long q2), .second, .val (.long q3), .second, .val (.long q4), .second, .val (.long q5), .second, .val (.int v1), .val (.int v6), .val (.int v11), .val (.int v16), .val (.int kk), .val (.ref tg), .val (.int pp66), .val (.long wx), .second, .val (.ref op), .val (.ref sh), .val (.long ((p1.toInt64) * q2)), .second, .val (.int (1 : Int32)), .unset, .unset, .unset] [(.int (1 : Int32))])) _
      refine XS.istore X97.here hx rfl (hb hby at_279) rfl (l' := #[.val (.int p0), .val (.int p1), .val (.long q2), .second, .val (.long q3), .second, .val (.long q4), .second, .val (.long q5), .second, .val (.int v1), .val (.int v6), .val (.int v11), .val (.int v16), .val (.int kk), .val (.ref tg), .val (.int pp66), .val (.long wx), .second, .val (.ref op), .val (.ref sh), .val (.long ((p1.toInt64) * q2)), .second, .val (.int (1 : Int32)), .val (.int (1 : Int32)), .unset, .unset]) rfl ?_
      show Steps p.tables e below (T97.setTop (mkF m 281 #[.val (.int p0), .val (.int p1), .val (.long q2), .second, .val (.long q3), .second, .val (.long q4), .second, .val (.long q5), .second, .val (.int v1), .val (.int v6), .val (.int v11), .val (.int v16), .val (.int kk), .val (.ref tg), .val (.int pp66), .val (.long wx), .second, .val (.ref op), .val (.ref sh), .val (.long ((p1.toInt64) * q2)), .second, .val (.int (1 : Int32)), .val (.int (1 : Int32)), .unset, .unset] [])) _
      exact k_)
  obtain ⟨r115, hv115, pre115⟩ : ∃ (r115 : Int64), (r115 = (if v11 = 0 then q5 else q5 + p1.toInt64 * q2)) ∧ ∀ t_, Steps p.tables e below (T97.setTop (mkF m 300 #[.val (.int p0), .val (.int p1), .val (.long q2), .second, .val (.long q3), .second, .val (.long q4), .second, .val (.long q5), .second, .val (.int v1), .val (.int v6), .val (.int v11), .val (.int v16), .val (.int kk), .val (.ref tg), .val (.int pp66), .val (.long wx), .second, .val (.ref op), .val (.ref sh), .val (.long ((p1.toInt64) * q2)), .second, .val (.int (1 : Int32)), .val (.int (1 : Int32)), .unset, .unset] [(.long r115), (.long (own_off (p1.toInt64 * q2) (own_g q3 q4 q5 wx) (own_ts v1 v6 v11 v16) 2))])) t_ → Steps p.tables e below (s₁.setTop (entryFrame m #[(.int p0), (.int p1), (.long q2), (.long q3), (.long q4), (.long q5)] maxLocals)) t_ := by
    have pre116 : ∀ t_, Steps p.tables e below (T97.setTop (mkF m 287 #[.val (.int p0), .val (.int p1), .val (.long q2), .second, .val (.long q3), .second, .val (.long q4), .second, .val (.long q5), .second, .val (.int v1), .val (.int v6), .val (.int v11), .val (.int v16), .val (.int kk), .val (.ref tg), .val (.int pp66), .val (.long wx), .second, .val (.ref op), .val (.ref sh), .val (.long ((p1.toInt64) * q2)), .second, .val (.int (1 : Int32)), .val (.int (1 : Int32)), .unset, .unset] [(.int v11), (.long (own_off (p1.toInt64 * q2) (own_g q3 q4 q5 wx) (own_ts v1 v6 v11 v16) 2))])) t_ → Steps p.tables e below (s₁.setTop (entryFrame m #[(.int p0), (.int p1), (.long q2), (.long q3), (.long q4), (.long q5)] maxLocals)) t_ := fun t_ k_ => pre114 t_ (by
        refine XS.aload X97.here hx rfl (hb hby at_281) rfl rfl ?_
        show Steps p.tables e below (T97.setTop (mkF m 283 #[.val (.int p0), .val (.int p1), .val (.long q2), .second, .val (.long q3), .second, .val (.long q4), .second, .val (.long q5), .second, .val (.int v1), .val (.int v6), .val (.int v11), .val (.int v16), .val (.int kk), .val (.ref tg), .val (.int pp66), .val (.long wx), .second, .val (.ref op), .val (.ref sh), .val (.long ((p1.toInt64) * q2)), .second, .val (.int (1 : Int32)), .val (.int (1 : Int32)), .unset, .unset] [(.ref op)])) _
        refine XS.iconst X97.here hx rfl (hb hby at_283) ?_
        show Steps p.tables e below (T97.setTop (mkF m 284 #[.val (.int p0), .val (.int p1), .val (.long q2), .second, .val (.long q3), .second, .val (.long q4), .second, .val (.long q5), .second, .val (.int v1), .val (.int v6), .val (.int v11), .val (.int v16), .val (.int kk), .val (.ref tg), .val (.int pp66), .val (.long wx), .second, .val (.ref op), .val (.ref sh), .val (.long ((p1.toInt64) * q2)), .second, .val (.int (1 : Int32)), .val (.int (1 : Int32)), .unset, .unset] [(.int (2 : Int32)), (.ref op)])) _
        refine oLdJ X97 hx hZ rfl A97q (k := 2) rfl (by decide) (v := (own_off (p1.toInt64 * q2) (own_g q3 q4 q5 wx) (own_ts v1 v6 v11 v16) 2)) rfl (g := (mkF m 284 #[.val (.int p0), .val (.int p1), .val (.long q2), .second, .val (.long q3), .second, .val (.long q4), .second, .val (.long q5), .second, .val (.int v1), .val (.int v6), .val (.int v11), .val (.int v16), .val (.int kk), .val (.ref tg), .val (.int pp66), .val (.long wx), .second, .val (.ref op), .val (.ref sh), .val (.long ((p1.toInt64) * q2)), .second, .val (.int (1 : Int32)), .val (.int (1 : Int32)), .unset, .unset] [(.int (2 : Int32)), (.ref op)])) rfl rfl (hb hby at_284) _ ?_
        show Steps p.tables e below (T97.setTop (mkF m 285 #[.val (.int p0), .val (.int p1), .val (.long q2), .second, .val (.long q3), .second, .val (.long q4), .second, .val (.long q5), .second, .val (.int v1), .val (.int v6), .val (.int v11), .val (.int v16), .val (.int kk), .val (.ref tg), .val (.int pp66), .val (.long wx), .second, .val (.ref op), .val (.ref sh), .val (.long ((p1.toInt64) * q2)), .second, .val (.int (1 : Int32)), .val (.int (1 : Int32)), .unset, .unset] [(.long (own_off (p1.toInt64 * q2) (own_g q3 q4 q5 wx) (own_ts v1 v6 v11 v16) 2))])) _
        refine XS.iload X97.here hx rfl (hb hby at_285) rfl ?_
        show Steps p.tables e below (T97.setTop (mkF m 287 #[.val (.int p0), .val (.int p1), .val (.long q2), .second, .val (.long q3), .second, .val (.long q4), .second, .val (.long q5), .second, .val (.int v1), .val (.int v6), .val (.int v11), .val (.int v16), .val (.int kk), .val (.ref tg), .val (.int pp66), .val (.long wx), .second, .val (.ref op), .val (.ref sh), .val (.long ((p1.toInt64) * q2)), .second, .val (.int (1 : Int32)), .val (.int (1 : Int32)), .unset, .unset] [(.int v11), (.long (own_off (p1.toInt64 * q2) (own_g q3 q4 q5 wx) (own_ts v1 v6 v11 v16) 2))])) _
        exact k_)
    by_cases c287_117 : v11 = (0 : Int32)
    · have pre118 : ∀ t_, Steps p.tables e below (T97.setTop (mkF m 300 #[.val (.int p0), .val (.int p1), .val (.long q2), .second, .val (.long q3), .second, .val (.long q4), .second, .val (.long q5), .second, .val (.int v1), .val (.int v6), .val (.int v11), .val (.int v16), .val (.int kk), .val (.ref tg), .val (.int pp66), .val (.long wx), .second, .val (.ref op), .val (.ref sh), .val (.long ((p1.toInt64) * q2)), .second, .val (.int (1 : Int32)), .val (.int (1 : Int32)), .unset, .unset] [(.long q5), (.long (own_off (p1.toInt64 * q2) (own_g q3 q4 q5 wx) (own_ts v1 v6 v11 v16) 2))])) t_ → Steps p.tables e below (s₁.setTop (entryFrame m #[(.int p0), (.int p1), (.long q2), (.long q3), (.long q4), (.long q5)] maxLocals)) t_ := fun t_ k_ => pre116 t_ (by
          refine XS.ifYes X97.here hx rfl (pc0 := 287) (pc' := 298) rfl (hb hby at_287) rfl ((if0 _ _).trans (teq c287_117).1) (by decide) (by decide) ?_
          show Steps p.tables e below (T97.setTop (mkF m 298 #[.val (.int p0), .val (.int p1), .val (.long q2), .second, .val (.long q3), .second, .val (.long q4), .second, .val (.long q5), .second, .val (.int v1), .val (.int v6), .val (.int v11), .val (.int v16), .val (.int kk), .val (.ref tg), .val (.int pp66), .val (.long wx), .second, .val (.ref op), .val (.ref sh), .val (.long ((p1.toInt64) * q2)), .second, .val (.int (1 : Int32)), .val (.int (1 : Int32)), .unset, .unset] [(.long (own_off (p1.toInt64 * q2) (own_g q3 q4 q5 wx) (own_ts v1 v6 v11 v16) 2))])) _
          refine XS.lload X97.here hx rfl (hb hby at_298) rfl ?_
          show Steps p.tables e below (T97.setTop (mkF m 300 #[.val (.int p0), .val (.int p1), .val (.long q2), .second, .val (.long q3), .second, .val (.long q4), .second, .val (.long q5), .second, .val (.int v1), .val (.int v6), .val (.int v11), .val (.int v16), .val (.int kk), .val (.ref tg), .val (.int pp66), .val (.long wx), .second, .val (.ref op), .val (.ref sh), .val (.long ((p1.toInt64) * q2)), .second, .val (.int (1 : Int32)), .val (.int (1 : Int32)), .unset, .unset] [(.long q5), (.long (own_off (p1.toInt64 * q2) (own_g q3 q4 q5 wx) (own_ts v1 v6 v11 v16) 2))])) _
          exact k_)
      exact ⟨q5, (if_pos c287_117).symm, pre118⟩
    · have pre119 : ∀ t_, Steps p.tables e below (T97.setTop (mkF m 300 #[.val (.int p0), .val (.int p1), .val (.long q2), .second, .val (.long q3), .second, .val (.long q4), .second, .val (.long q5), .second, .val (.int v1), .val (.int v6), .val (.int v11), .val (.int v16), .val (.int kk), .val (.ref tg), .val (.int pp66), .val (.long wx), .second, .val (.ref op), .val (.ref sh), .val (.long ((p1.toInt64) * q2)), .second, .val (.int (1 : Int32)), .val (.int (1 : Int32)), .unset, .unset] [(.long (q5 + ((p1.toInt64) * q2))), (.long (own_off (p1.toInt64 * q2) (own_g q3 q4 q5 wx) (own_ts v1 v6 v11 v16) 2))])) t_ → Steps p.tables e below (s₁.setTop (entryFrame m #[(.int p0), (.int p1), (.long q2), (.long q3), (.long q4), (.long q5)] maxLocals)) t_ := fun t_ k_ => pre116 t_ (by
          refine XS.ifNo X97.here hx rfl (hb hby at_287) rfl ((if0 _ _).trans (feq c287_117).1) ?_
          show Steps p.tables e below (T97.setTop (mkF m 290 #[.val (.int p0), .val (.int p1), .val (.long q2), .second, .val (.long q3), .second, .val (.long q4), .second, .val (.long q5), .second, .val (.int v1), .val (.int v6), .val (.int v11), .val (.int v16), .val (.int kk), .val (.ref tg), .val (.int pp66), .val (.long wx), .second, .val (.ref op), .val (.ref sh), .val (.long ((p1.toInt64) * q2)), .second, .val (.int (1 : Int32)), .val (.int (1 : Int32)), .unset, .unset] [(.long (own_off (p1.toInt64 * q2) (own_g q3 q4 q5 wx) (own_ts v1 v6 v11 v16) 2))])) _
          refine XS.lload X97.here hx rfl (hb hby at_290) rfl ?_
          show Steps p.tables e below (T97.setTop (mkF m 292 #[.val (.int p0), .val (.int p1), .val (.long q2), .second, .val (.long q3), .second, .val (.long q4), .second, .val (.long q5), .second, .val (.int v1), .val (.int v6), .val (.int v11), .val (.int v16), .val (.int kk), .val (.ref tg), .val (.int pp66), .val (.long wx), .second, .val (.ref op), .val (.ref sh), .val (.long ((p1.toInt64) * q2)), .second, .val (.int (1 : Int32)), .val (.int (1 : Int32)), .unset, .unset] [(.long q5), (.long (own_off (p1.toInt64 * q2) (own_g q3 q4 q5 wx) (own_ts v1 v6 v11 v16) 2))])) _
          refine XS.lload X97.here hx rfl (hb hby at_292) rfl ?_
          show Steps p.tables e below (T97.setTop (mkF m 294 #[.val (.int p0), .val (.int p1), .val (.long q2), .second, .val (.long q3), .second, .val (.long q4), .second, .val (.long q5), .second, .val (.int v1), .val (.int v6), .val (.int v11), .val (.int v16), .val (.int kk), .val (.ref tg), .val (.int pp66), .val (.long wx), .second, .val (.ref op), .val (.ref sh), .val (.long ((p1.toInt64) * q2)), .second, .val (.int (1 : Int32)), .val (.int (1 : Int32)), .unset, .unset] [(.long ((p1.toInt64) * q2)), (.long q5), (.long (own_off (p1.toInt64 * q2) (own_g q3 q4 q5 wx) (own_ts v1 v6 v11 v16) 2))])) _
          refine XS.ladd X97.here hx rfl (hb hby at_294) rfl ?_
          show Steps p.tables e below (T97.setTop (mkF m 295 #[.val (.int p0), .val (.int p1), .val (.long q2), .second, .val (.long q3), .second, .val (.long q4), .second, .val (.long q5), .second, .val (.int v1), .val (.int v6), .val (.int v11), .val (.int v16), .val (.int kk), .val (.ref tg), .val (.int pp66), .val (.long wx), .second, .val (.ref op), .val (.ref sh), .val (.long ((p1.toInt64) * q2)), .second, .val (.int (1 : Int32)), .val (.int (1 : Int32)), .unset, .unset] [(.long (q5 + ((p1.toInt64) * q2))), (.long (own_off (p1.toInt64 * q2) (own_g q3 q4 q5 wx) (own_ts v1 v6 v11 v16) 2))])) _
          refine XS.goto X97.here hx rfl (pc0 := 295) (pc' := 300) rfl (hb hby at_295) (by decide) (by decide) ?_
          show Steps p.tables e below (T97.setTop (mkF m 300 #[.val (.int p0), .val (.int p1), .val (.long q2), .second, .val (.long q3), .second, .val (.long q4), .second, .val (.long q5), .second, .val (.int v1), .val (.int v6), .val (.int v11), .val (.int v16), .val (.int kk), .val (.ref tg), .val (.int pp66), .val (.long wx), .second, .val (.ref op), .val (.ref sh), .val (.long ((p1.toInt64) * q2)), .second, .val (.int (1 : Int32)), .val (.int (1 : Int32)), .unset, .unset] [(.long (q5 + ((p1.toInt64) * q2))), (.long (own_off (p1.toInt64 * q2) (own_g q3 q4 q5 wx) (own_ts v1 v6 v11 v16) 2))])) _
          exact k_)
      exact ⟨(q5 + ((p1.toInt64) * q2)), (if_neg c287_117).symm, pre119⟩
  have pre120 : ∀ t_, Steps p.tables e below (T97.setTop (mkF m 311 #[.val (.int p0), .val (.int p1), .val (.long q2), .second, .val (.long q3), .second, .val (.long q4), .second, .val (.long q5), .second, .val (.int v1), .val (.int v6), .val (.int v11), .val (.int v16), .val (.int kk), .val (.ref tg), .val (.int pp66), .val (.long wx), .second, .val (.ref op), .val (.ref sh), .val (.long ((p1.toInt64) * q2)), .second, .val (.int (1 : Int32)), .val (.int (1 : Int32)), .val (.int (1 : Int32)), .unset] [])) t_ → Steps p.tables e below (s₁.setTop (entryFrame m #[(.int p0), (.int p1), (.long q2), (.long q3), (.long q4), (.long q5)] maxLocals)) t_ := fun t_ k_ => pre115 t_ (by
      refine XS.lcmp X97.here hx rfl (hb hby at_300) rfl ?_
      show Steps p.tables e below (T97.setTop (mkF m 301 #[.val (.int p0), .val (.int p1), .val (.long q2), .second, .val (.long q3), .second, .val (.long q4), .second, .val (.long q5), .second, .val (.int v1), .val (.int v6), .val (.int v11), .val (.int v16), .val (.int kk), .val (.ref tg), .val (.int pp66), .val (.long wx), .second, .val (.ref op), .val (.ref sh), .val (.long ((p1.toInt64) * q2)), .second, .val (.int (1 : Int32)), .val (.int (1 : Int32)), .unset, .unset] [(.int (lcmpW (own_off (p1.toInt64 * q2) (own_g q3 q4 q5 wx) (own_ts v1 v6 v11 v16) 2) r115))])) _
      refine XS.ifNo X97.here hx rfl (hb hby at_301) rfl ((if0 _ _).trans (teq (own_lc ((own_res (p1.toInt64 * q2) q3 q4 q5 wx v1 v6 v11 v16).2.2.1.trans hv115.symm))).2) ?_
      show Steps p.tables e below (T97.setTop (mkF m 304 #[.val (.int p0), .val (.int p1), .val (.long q2), .second, .val (.long q3), .second, .val (.long q4), .second, .val (.long q5), .second, .val (.int v1), .val (.int v6), .val (.int v11), .val (.int v16), .val (.int kk), .val (.ref tg), .val (.int pp66), .val (.long wx), .second, .val (.ref op), .val (.ref sh), .val (.long ((p1.toInt64) * q2)), .second, .val (.int (1 : Int32)), .val (.int (1 : Int32)), .unset, .unset] [])) _
      refine XS.iconst X97.here hx rfl (hb hby at_304) ?_
      show Steps p.tables e below (T97.setTop (mkF m 305 #[.val (.int p0), .val (.int p1), .val (.long q2), .second, .val (.long q3), .second, .val (.long q4), .second, .val (.long q5), .second, .val (.int v1), .val (.int v6), .val (.int v11), .val (.int v16), .val (.int kk), .val (.ref tg), .val (.int pp66), .val (.long wx), .second, .val (.ref op), .val (.ref sh), .val (.long ((p1.toInt64) * q2)), .second, .val (.int (1 : Int32)), .val (.int (1 : Int32)), .unset, .unset] [(.int (1 : Int32))])) _
      refine XS.goto X97.here hx rfl (pc0 := 305) (pc' := 309) rfl (hb hby at_305) (by decide) (by decide) ?_
      show Steps p.tables e below (T97.setTop (mkF m 309 #[.val (.int p0), .val (.int p1), .val (.long q2), .second, .val (.long q3), .second, .val (.long q4), .second, .val (.long q5), .second, .val (.int v1), .val (.int v6), .val (.int v11), .val (.int v16), .val (.int kk), .val (.ref tg), .val (.int pp66), .val (.long wx), .second, .val (.ref op), .val (.ref sh), .val (.long ((p1.toInt64) * q2)), .second, .val (.int (1 : Int32)), .val (.int (1 : Int32)), .unset, .unset] [(.int (1 : Int32))])) _
      refine XS.istore X97.here hx rfl (hb hby at_309) rfl (l' := #[.val (.int p0), .val (.int p1), .val (.long q2), .second, .val (.long q3), .second, .val (.long q4), .second, .val (.long q5), .second, .val (.int v1), .val (.int v6), .val (.int v11), .val (.int v16), .val (.int kk), .val (.ref tg), .val (.int pp66), .val (.long wx), .second, .val (.ref op), .val (.ref sh), .val (.long ((p1.toInt64) * q2)), .second, .val (.int (1 : Int32)), .val (.int (1 : Int32)), .val (.int (1 : Int32)), .unset]) rfl ?_
      show Steps p.tables e below (T97.setTop (mkF m 311 #[.val (.int p0), .val (.int p1), .val (.long q2), .second, .val (.long q3), .second, .val (.long q4), .second, .val (.long q5), .second, .val (.int v1), .val (.int v6), .val (.int v11), .val (.int v16), .val (.int kk), .val (.ref tg), .val (.int pp66), .val (.long wx), .second, .val (.ref op), .val (.ref sh), .val (.long ((p1.toInt64) * q2)), .second, .val (.int (1 : Int32)), .val (.int (1 : Int32)), .val (.int (1 : Int32)), .unset] [])) _
      exact k_)
  obtain ⟨r121, hv121, pre121⟩ : ∃ (r121 : Int64), (r121 = (if v16 = 0 then wx else wx + p1.toInt64 * q2)) ∧ ∀ t_, Steps p.tables e below (T97.setTop (mkF m 330 #[.val (.int p0), .val (.int p1), .val (.long q2), .second, .val (.long q3), .second, .val (.long q4), .second, .val (.long q5), .second, .val (.int v1), .val (.int v6), .val (.int v11), .val (.int v16), .val (.int kk), .val (.ref tg), .val (.int pp66), .val (.long wx), .second, .val (.ref op), .val (.ref sh), .val (.long ((p1.toInt64) * q2)), .second, .val (.int (1 : Int32)), .val (.int (1 : Int32)), .val (.int (1 : Int32)), .unset] [(.long r121), (.long (own_off (p1.toInt64 * q2) (own_g q3 q4 q5 wx) (own_ts v1 v6 v11 v16) 3))])) t_ → Steps p.tables e below (s₁.setTop (entryFrame m #[(.int p0), (.int p1), (.long q2), (.long q3), (.long q4), (.long q5)] maxLocals)) t_ := by
    have pre122 : ∀ t_, Steps p.tables e below (T97.setTop (mkF m 317 #[.val (.int p0), .val (.int p1), .val (.long q2), .second, .val (.long q3), .second, .val (.long q4), .second, .val (.long q5), .second, .val (.int v1), .val (.int v6), .val (.int v11), .val (.int v16), .val (.int kk), .val (.ref tg), .val (.int pp66), .val (.long wx), .second, .val (.ref op), .val (.ref sh), .val (.long ((p1.toInt64) * q2)), .second, .val (.int (1 : Int32)), .val (.int (1 : Int32)), .val (.int (1 : Int32)), .unset] [(.int v16), (.long (own_off (p1.toInt64 * q2) (own_g q3 q4 q5 wx) (own_ts v1 v6 v11 v16) 3))])) t_ → Steps p.tables e below (s₁.setTop (entryFrame m #[(.int p0), (.int p1), (.long q2), (.long q3), (.long q4), (.long q5)] maxLocals)) t_ := fun t_ k_ => pre120 t_ (by
        refine XS.aload X97.here hx rfl (hb hby at_311) rfl rfl ?_
        show Steps p.tables e below (T97.setTop (mkF m 313 #[.val (.int p0), .val (.int p1), .val (.long q2), .second, .val (.long q3), .second, .val (.long q4), .second, .val (.long q5), .second, .val (.int v1), .val (.int v6), .val (.int v11), .val (.int v16), .val (.int kk), .val (.ref tg), .val (.int pp66), .val (.long wx), .second, .val (.ref op), .val (.ref sh), .val (.long ((p1.toInt64) * q2)), .second, .val (.int (1 : Int32)), .val (.int (1 : Int32)), .val (.int (1 : Int32)), .unset] [(.ref op)])) _
        refine XS.iconst X97.here hx rfl (hb hby at_313) ?_
        show Steps p.tables e below (T97.setTop (mkF m 314 #[.val (.int p0), .val (.int p1), .val (.long q2), .second, .val (.long q3), .second, .val (.long q4), .second, .val (.long q5), .second, .val (.int v1), .val (.int v6), .val (.int v11), .val (.int v16), .val (.int kk), .val (.ref tg), .val (.int pp66), .val (.long wx), .second, .val (.ref op), .val (.ref sh), .val (.long ((p1.toInt64) * q2)), .second, .val (.int (1 : Int32)), .val (.int (1 : Int32)), .val (.int (1 : Int32)), .unset] [(.int (3 : Int32)), (.ref op)])) _
        refine oLdJ X97 hx hZ rfl A97q (k := 3) rfl (by decide) (v := (own_off (p1.toInt64 * q2) (own_g q3 q4 q5 wx) (own_ts v1 v6 v11 v16) 3)) rfl (g := (mkF m 314 #[.val (.int p0), .val (.int p1), .val (.long q2), .second, .val (.long q3), .second, .val (.long q4), .second, .val (.long q5), .second, .val (.int v1), .val (.int v6), .val (.int v11), .val (.int v16), .val (.int kk), .val (.ref tg), .val (.int pp66), .val (.long wx), .second, .val (.ref op), .val (.ref sh), .val (.long ((p1.toInt64) * q2)), .second, .val (.int (1 : Int32)), .val (.int (1 : Int32)), .val (.int (1 : Int32)), .unset] [(.int (3 : Int32)), (.ref op)])) rfl rfl (hb hby at_314) _ ?_
        show Steps p.tables e below (T97.setTop (mkF m 315 #[.val (.int p0), .val (.int p1), .val (.long q2), .second, .val (.long q3), .second, .val (.long q4), .second, .val (.long q5), .second, .val (.int v1), .val (.int v6), .val (.int v11), .val (.int v16), .val (.int kk), .val (.ref tg), .val (.int pp66), .val (.long wx), .second, .val (.ref op), .val (.ref sh), .val (.long ((p1.toInt64) * q2)), .second, .val (.int (1 : Int32)), .val (.int (1 : Int32)), .val (.int (1 : Int32)), .unset] [(.long (own_off (p1.toInt64 * q2) (own_g q3 q4 q5 wx) (own_ts v1 v6 v11 v16) 3))])) _
        refine XS.iload X97.here hx rfl (hb hby at_315) rfl ?_
        show Steps p.tables e below (T97.setTop (mkF m 317 #[.val (.int p0), .val (.int p1), .val (.long q2), .second, .val (.long q3), .second, .val (.long q4), .second, .val (.long q5), .second, .val (.int v1), .val (.int v6), .val (.int v11), .val (.int v16), .val (.int kk), .val (.ref tg), .val (.int pp66), .val (.long wx), .second, .val (.ref op), .val (.ref sh), .val (.long ((p1.toInt64) * q2)), .second, .val (.int (1 : Int32)), .val (.int (1 : Int32)), .val (.int (1 : Int32)), .unset] [(.int v16), (.long (own_off (p1.toInt64 * q2) (own_g q3 q4 q5 wx) (own_ts v1 v6 v11 v16) 3))])) _
        exact k_)
    by_cases c317_123 : v16 = (0 : Int32)
    · have pre124 : ∀ t_, Steps p.tables e below (T97.setTop (mkF m 330 #[.val (.int p0), .val (.int p1), .val (.long q2), .second, .val (.long q3), .second, .val (.long q4), .second, .val (.long q5), .second, .val (.int v1), .val (.int v6), .val (.int v11), .val (.int v16), .val (.int kk), .val (.ref tg), .val (.int pp66), .val (.long wx), .second, .val (.ref op), .val (.ref sh), .val (.long ((p1.toInt64) * q2)), .second, .val (.int (1 : Int32)), .val (.int (1 : Int32)), .val (.int (1 : Int32)), .unset] [(.long wx), (.long (own_off (p1.toInt64 * q2) (own_g q3 q4 q5 wx) (own_ts v1 v6 v11 v16) 3))])) t_ → Steps p.tables e below (s₁.setTop (entryFrame m #[(.int p0), (.int p1), (.long q2), (.long q3), (.long q4), (.long q5)] maxLocals)) t_ := fun t_ k_ => pre122 t_ (by
          refine XS.ifYes X97.here hx rfl (pc0 := 317) (pc' := 328) rfl (hb hby at_317) rfl ((if0 _ _).trans (teq c317_123).1) (by decide) (by decide) ?_
          show Steps p.tables e below (T97.setTop (mkF m 328 #[.val (.int p0), .val (.int p1), .val (.long q2), .second, .val (.long q3), .second, .val (.long q4), .second, .val (.long q5), .second, .val (.int v1), .val (.int v6), .val (.int v11), .val (.int v16), .val (.int kk), .val (.ref tg), .val (.int pp66), .val (.long wx), .second, .val (.ref op), .val (.ref sh), .val (.long ((p1.toInt64) * q2)), .second, .val (.int (1 : Int32)), .val (.int (1 : Int32)), .val (.int (1 : Int32)), .unset] [(.long (own_off (p1.toInt64 * q2) (own_g q3 q4 q5 wx) (own_ts v1 v6 v11 v16) 3))])) _
          refine XS.lload X97.here hx rfl (hb hby at_328) rfl ?_
          show Steps p.tables e below (T97.setTop (mkF m 330 #[.val (.int p0), .val (.int p1), .val (.long q2), .second, .val (.long q3), .second, .val (.long q4), .second, .val (.long q5), .second, .val (.int v1), .val (.int v6), .val (.int v11), .val (.int v16), .val (.int kk), .val (.ref tg), .val (.int pp66), .val (.long wx), .second, .val (.ref op), .val (.ref sh), .val (.long ((p1.toInt64) * q2)), .second, .val (.int (1 : Int32)), .val (.int (1 : Int32)), .val (.int (1 : Int32)), .unset] [(.long wx), (.long (own_off (p1.toInt64 * q2) (own_g q3 q4 q5 wx) (own_ts v1 v6 v11 v16) 3))])) _
          exact k_)
      exact ⟨wx, (if_pos c317_123).symm, pre124⟩
    · have pre125 : ∀ t_, Steps p.tables e below (T97.setTop (mkF m 330 #[.val (.int p0), .val (.int p1), .val (.long q2), .second, .val (.long q3), .second, .val (.long q4), .second, .val (.long q5), .second, .val (.int v1), .val (.int v6), .val (.int v11), .val (.int v16), .val (.int kk), .val (.ref tg), .val (.int pp66), .val (.long wx), .second, .val (.ref op), .val (.ref sh), .val (.long ((p1.toInt64) * q2)), .second, .val (.int (1 : Int32)), .val (.int (1 : Int32)), .val (.int (1 : Int32)), .unset] [(.long (wx + ((p1.toInt64) * q2))), (.long (own_off (p1.toInt64 * q2) (own_g q3 q4 q5 wx) (own_ts v1 v6 v11 v16) 3))])) t_ → Steps p.tables e below (s₁.setTop (entryFrame m #[(.int p0), (.int p1), (.long q2), (.long q3), (.long q4), (.long q5)] maxLocals)) t_ := fun t_ k_ => pre122 t_ (by
          refine XS.ifNo X97.here hx rfl (hb hby at_317) rfl ((if0 _ _).trans (feq c317_123).1) ?_
          show Steps p.tables e below (T97.setTop (mkF m 320 #[.val (.int p0), .val (.int p1), .val (.long q2), .second, .val (.long q3), .second, .val (.long q4), .second, .val (.long q5), .second, .val (.int v1), .val (.int v6), .val (.int v11), .val (.int v16), .val (.int kk), .val (.ref tg), .val (.int pp66), .val (.long wx), .second, .val (.ref op), .val (.ref sh), .val (.long ((p1.toInt64) * q2)), .second, .val (.int (1 : Int32)), .val (.int (1 : Int32)), .val (.int (1 : Int32)), .unset] [(.long (own_off (p1.toInt64 * q2) (own_g q3 q4 q5 wx) (own_ts v1 v6 v11 v16) 3))])) _
          refine XS.lload X97.here hx rfl (hb hby at_320) rfl ?_
          show Steps p.tables e below (T97.setTop (mkF m 322 #[.val (.int p0), .val (.int p1), .val (.long q2), .second, .val (.long q3), .second, .val (.long q4), .second, .val (.long q5), .second, .val (.int v1), .val (.int v6), .val (.int v11), .val (.int v16), .val (.int kk), .val (.ref tg), .val (.int pp66), .val (.long wx), .second, .val (.ref op), .val (.ref sh), .val (.long ((p1.toInt64) * q2)), .second, .val (.int (1 : Int32)), .val (.int (1 : Int32)), .val (.int (1 : Int32)), .unset] [(.long wx), (.long (own_off (p1.toInt64 * q2) (own_g q3 q4 q5 wx) (own_ts v1 v6 v11 v16) 3))])) _
          refine XS.lload X97.here hx rfl (hb hby at_322) rfl ?_
          show Steps p.tables e below (T97.setTop (mkF m 324 #[.val (.int p0), .val (.int p1), .val (.long q2), .second, .val (.long q3), .second, .val (.long q4), .second, .val (.long q5), .second, .val (.int v1), .val (.int v6), .val (.int v11), .val (.int v16), .val (.int kk), .val (.ref tg), .val (.int pp66), .val (.long wx), .second, .val (.ref op), .val (.ref sh), .val (.long ((p1.toInt64) * q2)), .second, .val (.int (1 : Int32)), .val (.int (1 : Int32)), .val (.int (1 : Int32)), .unset] [(.long ((p1.toInt64) * q2)), (.long wx), (.long (own_off (p1.toInt64 * q2) (own_g q3 q4 q5 wx) (own_ts v1 v6 v11 v16) 3))])) _
          refine XS.ladd X97.here hx rfl (hb hby at_324) rfl ?_
          show Steps p.tables e below (T97.setTop (mkF m 325 #[.val (.int p0), .val (.int p1), .val (.long q2), .second, .val (.long q3), .second, .val (.long q4), .second, .val (.long q5), .second, .val (.int v1), .val (.int v6), .val (.int v11), .val (.int v16), .val (.int kk), .val (.ref tg), .val (.int pp66), .val (.long wx), .second, .val (.ref op), .val (.ref sh), .val (.long ((p1.toInt64) * q2)), .second, .val (.int (1 : Int32)), .val (.int (1 : Int32)), .val (.int (1 : Int32)), .unset] [(.long (wx + ((p1.toInt64) * q2))), (.long (own_off (p1.toInt64 * q2) (own_g q3 q4 q5 wx) (own_ts v1 v6 v11 v16) 3))])) _
          refine XS.goto X97.here hx rfl (pc0 := 325) (pc' := 330) rfl (hb hby at_325) (by decide) (by decide) ?_
          show Steps p.tables e below (T97.setTop (mkF m 330 #[.val (.int p0), .val (.int p1), .val (.long q2), .second, .val (.long q3), .second, .val (.long q4), .second, .val (.long q5), .second, .val (.int v1), .val (.int v6), .val (.int v11), .val (.int v16), .val (.int kk), .val (.ref tg), .val (.int pp66), .val (.long wx), .second, .val (.ref op), .val (.ref sh), .val (.long ((p1.toInt64) * q2)), .second, .val (.int (1 : Int32)), .val (.int (1 : Int32)), .val (.int (1 : Int32)), .unset] [(.long (wx + ((p1.toInt64) * q2))), (.long (own_off (p1.toInt64 * q2) (own_g q3 q4 q5 wx) (own_ts v1 v6 v11 v16) 3))])) _
          exact k_)
      exact ⟨(wx + ((p1.toInt64) * q2)), (if_neg c317_123).symm, pre125⟩
  have pre126 : ∀ t_, Steps p.tables e below (T97.setTop (mkF m 366 #[.val (.int p0), .val (.int p1), .val (.long q2), .second, .val (.long q3), .second, .val (.long q4), .second, .val (.long q5), .second, .val (.int v1), .val (.int v6), .val (.int v11), .val (.int v16), .val (.int kk), .val (.ref tg), .val (.int pp66), .val (.long wx), .second, .val (.ref op), .val (.ref sh), .val (.long ((p1.toInt64) * q2)), .second, .val (.int (1 : Int32)), .val (.int (1 : Int32)), .val (.int (1 : Int32)), .val (.int (1 : Int32))] [(.int (1 : Int32))])) t_ → Steps p.tables e below (s₁.setTop (entryFrame m #[(.int p0), (.int p1), (.long q2), (.long q3), (.long q4), (.long q5)] maxLocals)) t_ := fun t_ k_ => pre121 t_ (by
      refine XS.lcmp X97.here hx rfl (hb hby at_330) rfl ?_
      show Steps p.tables e below (T97.setTop (mkF m 331 #[.val (.int p0), .val (.int p1), .val (.long q2), .second, .val (.long q3), .second, .val (.long q4), .second, .val (.long q5), .second, .val (.int v1), .val (.int v6), .val (.int v11), .val (.int v16), .val (.int kk), .val (.ref tg), .val (.int pp66), .val (.long wx), .second, .val (.ref op), .val (.ref sh), .val (.long ((p1.toInt64) * q2)), .second, .val (.int (1 : Int32)), .val (.int (1 : Int32)), .val (.int (1 : Int32)), .unset] [(.int (lcmpW (own_off (p1.toInt64 * q2) (own_g q3 q4 q5 wx) (own_ts v1 v6 v11 v16) 3) r121))])) _
      refine XS.ifNo X97.here hx rfl (hb hby at_331) rfl ((if0 _ _).trans (teq (own_lc ((own_res (p1.toInt64 * q2) q3 q4 q5 wx v1 v6 v11 v16).2.2.2.trans hv121.symm))).2) ?_
      show Steps p.tables e below (T97.setTop (mkF m 334 #[.val (.int p0), .val (.int p1), .val (.long q2), .second, .val (.long q3), .second, .val (.long q4), .second, .val (.long q5), .second, .val (.int v1), .val (.int v6), .val (.int v11), .val (.int v16), .val (.int kk), .val (.ref tg), .val (.int pp66), .val (.long wx), .second, .val (.ref op), .val (.ref sh), .val (.long ((p1.toInt64) * q2)), .second, .val (.int (1 : Int32)), .val (.int (1 : Int32)), .val (.int (1 : Int32)), .unset] [])) _
      refine XS.iconst X97.here hx rfl (hb hby at_334) ?_
      show Steps p.tables e below (T97.setTop (mkF m 335 #[.val (.int p0), .val (.int p1), .val (.long q2), .second, .val (.long q3), .second, .val (.long q4), .second, .val (.long q5), .second, .val (.int v1), .val (.int v6), .val (.int v11), .val (.int v16), .val (.int kk), .val (.ref tg), .val (.int pp66), .val (.long wx), .second, .val (.ref op), .val (.ref sh), .val (.long ((p1.toInt64) * q2)), .second, .val (.int (1 : Int32)), .val (.int (1 : Int32)), .val (.int (1 : Int32)), .unset] [(.int (1 : Int32))])) _
      refine XS.goto X97.here hx rfl (pc0 := 335) (pc' := 339) rfl (hb hby at_335) (by decide) (by decide) ?_
      show Steps p.tables e below (T97.setTop (mkF m 339 #[.val (.int p0), .val (.int p1), .val (.long q2), .second, .val (.long q3), .second, .val (.long q4), .second, .val (.long q5), .second, .val (.int v1), .val (.int v6), .val (.int v11), .val (.int v16), .val (.int kk), .val (.ref tg), .val (.int pp66), .val (.long wx), .second, .val (.ref op), .val (.ref sh), .val (.long ((p1.toInt64) * q2)), .second, .val (.int (1 : Int32)), .val (.int (1 : Int32)), .val (.int (1 : Int32)), .unset] [(.int (1 : Int32))])) _
      refine XS.istore X97.here hx rfl (hb hby at_339) rfl (l' := #[.val (.int p0), .val (.int p1), .val (.long q2), .second, .val (.long q3), .second, .val (.long q4), .second, .val (.long q5), .second, .val (.int v1), .val (.int v6), .val (.int v11), .val (.int v16), .val (.int kk), .val (.ref tg), .val (.int pp66), .val (.long wx), .second, .val (.ref op), .val (.ref sh), .val (.long ((p1.toInt64) * q2)), .second, .val (.int (1 : Int32)), .val (.int (1 : Int32)), .val (.int (1 : Int32)), .val (.int (1 : Int32))]) rfl ?_
      show Steps p.tables e below (T97.setTop (mkF m 341 #[.val (.int p0), .val (.int p1), .val (.long q2), .second, .val (.long q3), .second, .val (.long q4), .second, .val (.long q5), .second, .val (.int v1), .val (.int v6), .val (.int v11), .val (.int v16), .val (.int kk), .val (.ref tg), .val (.int pp66), .val (.long wx), .second, .val (.ref op), .val (.ref sh), .val (.long ((p1.toInt64) * q2)), .second, .val (.int (1 : Int32)), .val (.int (1 : Int32)), .val (.int (1 : Int32)), .val (.int (1 : Int32))] [])) _
      refine XS.iload X97.here hx rfl (hb hby at_341) rfl ?_
      show Steps p.tables e below (T97.setTop (mkF m 343 #[.val (.int p0), .val (.int p1), .val (.long q2), .second, .val (.long q3), .second, .val (.long q4), .second, .val (.long q5), .second, .val (.int v1), .val (.int v6), .val (.int v11), .val (.int v16), .val (.int kk), .val (.ref tg), .val (.int pp66), .val (.long wx), .second, .val (.ref op), .val (.ref sh), .val (.long ((p1.toInt64) * q2)), .second, .val (.int (1 : Int32)), .val (.int (1 : Int32)), .val (.int (1 : Int32)), .val (.int (1 : Int32))] [(.int (1 : Int32))])) _
      refine XS.ifNo X97.here hx rfl (hb hby at_343) rfl ((if0 _ _).trans (feq (by decide : ¬ ((1 : Int32) = (0 : Int32)))).1) ?_
      show Steps p.tables e below (T97.setTop (mkF m 346 #[.val (.int p0), .val (.int p1), .val (.long q2), .second, .val (.long q3), .second, .val (.long q4), .second, .val (.long q5), .second, .val (.int v1), .val (.int v6), .val (.int v11), .val (.int v16), .val (.int kk), .val (.ref tg), .val (.int pp66), .val (.long wx), .second, .val (.ref op), .val (.ref sh), .val (.long ((p1.toInt64) * q2)), .second, .val (.int (1 : Int32)), .val (.int (1 : Int32)), .val (.int (1 : Int32)), .val (.int (1 : Int32))] [])) _
      refine XS.iload X97.here hx rfl (hb hby at_346) rfl ?_
      show Steps p.tables e below (T97.setTop (mkF m 348 #[.val (.int p0), .val (.int p1), .val (.long q2), .second, .val (.long q3), .second, .val (.long q4), .second, .val (.long q5), .second, .val (.int v1), .val (.int v6), .val (.int v11), .val (.int v16), .val (.int kk), .val (.ref tg), .val (.int pp66), .val (.long wx), .second, .val (.ref op), .val (.ref sh), .val (.long ((p1.toInt64) * q2)), .second, .val (.int (1 : Int32)), .val (.int (1 : Int32)), .val (.int (1 : Int32)), .val (.int (1 : Int32))] [(.int (1 : Int32))])) _
      refine XS.ifNo X97.here hx rfl (hb hby at_348) rfl ((if0 _ _).trans (feq (by decide : ¬ ((1 : Int32) = (0 : Int32)))).1) ?_
      show Steps p.tables e below (T97.setTop (mkF m 351 #[.val (.int p0), .val (.int p1), .val (.long q2), .second, .val (.long q3), .second, .val (.long q4), .second, .val (.long q5), .second, .val (.int v1), .val (.int v6), .val (.int v11), .val (.int v16), .val (.int kk), .val (.ref tg), .val (.int pp66), .val (.long wx), .second, .val (.ref op), .val (.ref sh), .val (.long ((p1.toInt64) * q2)), .second, .val (.int (1 : Int32)), .val (.int (1 : Int32)), .val (.int (1 : Int32)), .val (.int (1 : Int32))] [])) _
      refine XS.iload X97.here hx rfl (hb hby at_351) rfl ?_
      show Steps p.tables e below (T97.setTop (mkF m 353 #[.val (.int p0), .val (.int p1), .val (.long q2), .second, .val (.long q3), .second, .val (.long q4), .second, .val (.long q5), .second, .val (.int v1), .val (.int v6), .val (.int v11), .val (.int v16), .val (.int kk), .val (.ref tg), .val (.int pp66), .val (.long wx), .second, .val (.ref op), .val (.ref sh), .val (.long ((p1.toInt64) * q2)), .second, .val (.int (1 : Int32)), .val (.int (1 : Int32)), .val (.int (1 : Int32)), .val (.int (1 : Int32))] [(.int (1 : Int32))])) _
      refine XS.ifNo X97.here hx rfl (hb hby at_353) rfl ((if0 _ _).trans (feq (by decide : ¬ ((1 : Int32) = (0 : Int32)))).1) ?_
      show Steps p.tables e below (T97.setTop (mkF m 356 #[.val (.int p0), .val (.int p1), .val (.long q2), .second, .val (.long q3), .second, .val (.long q4), .second, .val (.long q5), .second, .val (.int v1), .val (.int v6), .val (.int v11), .val (.int v16), .val (.int kk), .val (.ref tg), .val (.int pp66), .val (.long wx), .second, .val (.ref op), .val (.ref sh), .val (.long ((p1.toInt64) * q2)), .second, .val (.int (1 : Int32)), .val (.int (1 : Int32)), .val (.int (1 : Int32)), .val (.int (1 : Int32))] [])) _
      refine XS.iload X97.here hx rfl (hb hby at_356) rfl ?_
      show Steps p.tables e below (T97.setTop (mkF m 358 #[.val (.int p0), .val (.int p1), .val (.long q2), .second, .val (.long q3), .second, .val (.long q4), .second, .val (.long q5), .second, .val (.int v1), .val (.int v6), .val (.int v11), .val (.int v16), .val (.int kk), .val (.ref tg), .val (.int pp66), .val (.long wx), .second, .val (.ref op), .val (.ref sh), .val (.long ((p1.toInt64) * q2)), .second, .val (.int (1 : Int32)), .val (.int (1 : Int32)), .val (.int (1 : Int32)), .val (.int (1 : Int32))] [(.int (1 : Int32))])) _
      refine XS.ifNo X97.here hx rfl (hb hby at_358) rfl ((if0 _ _).trans (feq (by decide : ¬ ((1 : Int32) = (0 : Int32)))).1) ?_
      show Steps p.tables e below (T97.setTop (mkF m 361 #[.val (.int p0), .val (.int p1), .val (.long q2), .second, .val (.long q3), .second, .val (.long q4), .second, .val (.long q5), .second, .val (.int v1), .val (.int v6), .val (.int v11), .val (.int v16), .val (.int kk), .val (.ref tg), .val (.int pp66), .val (.long wx), .second, .val (.ref op), .val (.ref sh), .val (.long ((p1.toInt64) * q2)), .second, .val (.int (1 : Int32)), .val (.int (1 : Int32)), .val (.int (1 : Int32)), .val (.int (1 : Int32))] [])) _
      refine XS.iconst X97.here hx rfl (hb hby at_361) ?_
      show Steps p.tables e below (T97.setTop (mkF m 362 #[.val (.int p0), .val (.int p1), .val (.long q2), .second, .val (.long q3), .second, .val (.long q4), .second, .val (.long q5), .second, .val (.int v1), .val (.int v6), .val (.int v11), .val (.int v16), .val (.int kk), .val (.ref tg), .val (.int pp66), .val (.long wx), .second, .val (.ref op), .val (.ref sh), .val (.long ((p1.toInt64) * q2)), .second, .val (.int (1 : Int32)), .val (.int (1 : Int32)), .val (.int (1 : Int32)), .val (.int (1 : Int32))] [(.int (1 : Int32))])) _
      refine XS.goto X97.here hx rfl (pc0 := 362) (pc' := 366) rfl (hb hby at_362) (by decide) (by decide) ?_
      show Steps p.tables e below (T97.setTop (mkF m 366 #[.val (.int p0), .val (.int p1), .val (.long q2), .second, .val (.long q3), .second, .val (.long q4), .second, .val (.long q5), .second, .val (.int v1), .val (.int v6), .val (.int v11), .val (.int v16), .val (.int kk), .val (.ref tg), .val (.int pp66), .val (.long wx), .second, .val (.ref op), .val (.ref sh), .val (.long ((p1.toInt64) * q2)), .second, .val (.int (1 : Int32)), .val (.int (1 : Int32)), .val (.int (1 : Int32)), .val (.int (1 : Int32))] [(.int (1 : Int32))])) _
      exact k_)
  obtain ⟨fs, hr, hrun, hended, hW, hsame⟩ := X97.leave (v := some (.int (1 : Int32))) (fun h => by rw [Bd.returns] at h; cases h)
  refine ⟨_, _, pre126 _ ?_, hrun, hended, _, _, rfl, ?_, ⟨_, rfl⟩, hW, hsame.mono (by decide) (by decide)⟩
  · exact retN X97 hx (t := .boolean) Bd.returns (by simp) (hb hby at_366) hr
  · show Q0 Z p0 p1 q2 q3 q4 q5 h0 n0 _ T97.heap _
    exact ⟨rfl, N97⟩
set_option maxRecDepth 65536 in
set_option maxHeartbeats 40000000 in
theorem comes_1 {Post : Tables → Env → Array Value → State → Outcome → State → Prop} (hpost : ∀ tb e args s v u, (limb_1_1.after args s (.returned v) u = true ∧ limb_1_2.after args s (.returned v) u = true ∧ True) → FrameEnd s (.returned v) u (Jvm.fieldLocs frame_1_writes args s ++ Jvm.arrayLocs frame_1_arrays args s ++ Jvm.staticLocs frame_1_statics s) 16 128 → Post tb e args s (.returned v) u) :
    ArmFor flags0 classFile x code maxLocals ret World_1 tables_1 room_1 Calls_1 rest_1 Pre_1 Post := by
  intro l hfl _ _ p e ha hc hk s m args below hf hA hF happ hP
  obtain ⟨hcalls, hrest, hpre⟩ := hP
  obtain ⟨-, -, -, hnamed, -, -, -, hat⟩ := (Spec.applies_iff hf).mp happ
  obtain ⟨hg, hn⟩ := and_e (Cond.before_iff.mp (show (Jvm.Cond.and given_1 narrow_1).before args s = true from hpre))
  obtain ⟨hcount, hg0⟩ := and_e hg
  obtain ⟨ha0, hg1⟩ := and_e hg0
  obtain ⟨ha1, hg2⟩ := and_e hg1
  obtain ⟨ha2, hg3⟩ := and_e hg2
  obtain ⟨ha3, hg4⟩ := and_e hg3
  obtain ⟨ha4, hg5⟩ := and_e hg4
  have ha5 := hg5
  obtain ⟨w0, w1, w2, w3, w4, w5, rfl⟩ : ∃ w0 w1 w2 w3 w4 w5 : Value, args = #[w0, w1, w2, w3, w4, w5] := by
    have hs : args.size = 6 := by simpa [Cond.value, given_1] using hcount
    obtain ⟨L⟩ := args
    match L, hs with
    | [w0, w1, w2, w3, w4, w5], _ => exact ⟨w0, w1, w2, w3, w4, w5, rfl⟩
  have hw := fun d (hd : d ∈ tables_1) => atoms_spec (ws := Jvm.Cond.code x code maxLocals ret :: tables_1) hat d (List.mem_cons_of_mem _ hd)
  have hfit : Fit s := fun {y c} hc i hi => by
    obtain ⟨ha, rfl⟩ := Array.getElem?_eq_some_iff.mp hc
    have q := List.all_eq_true.mp ((Array.all_eq_true_iff_forall_mem.mp hF) _ (Array.getElem_mem ha)) i (List.mem_range.mpr hi)
    simpa [Array.getElem?_eq_getElem hi] using q
  obtain ⟨i0, ei0⟩ := is_v ha0
  obtain rfl : w0 = (.int i0) := Option.some.inj ei0
  obtain ⟨i1, ei1⟩ := is_v ha1
  obtain rfl : w1 = (.int i1) := Option.some.inj ei1
  obtain ⟨i2, ei2⟩ := isL_v ha2
  obtain rfl : w2 = (.long i2) := Option.some.inj ei2
  obtain ⟨i3, ei3⟩ := isL_v ha3
  obtain rfl : w3 = (.long i3) := Option.some.inj ei3
  obtain ⟨i4, ei4⟩ := isL_v ha4
  obtain rfl : w4 = (.long i4) := Option.some.inj ei4
  obtain ⟨i5, ei5⟩ := isL_v ha5
  obtain rfl : w5 = (.long i5) := Option.some.inj ei5
  obtain ⟨n, o, h1, h2, h3, _, L, rfl, ⟨rfl, N⟩, hq⟩ := rm0 l s _ hw tables_1 i0 i1 i2 i3 i4 i5  s.heap s.heap.size (Nat.le_refl _)  p e ha hc hk s m _ below hf ((Spec.applies_iff_loose hf).mp happ).1 ⟨rfl, State.Warmed39.refl s, rfl⟩ trivial
  refine ⟨n, _, h1, h2, h3, hpost _ _ _ _ _ _ ⟨Cond.after_iff.mpr rfl, Cond.after_iff.mpr (eq_i res_at (Term.int_eval (1)) rfl), trivial⟩ ⟨hq.1, hq.2.1, (hq.2.2.sift fun y hy => Or.inr (N y hy)).mono (by decide) (by decide)⟩⟩
theorem main_1_1 : Claimed_1_1 := comes_1 fun _ _ _ _ _ _ h hF => ⟨h.1, hF⟩
theorem main_1_2 : Claimed_1_2 := comes_1 fun _ _ _ _ _ _ h hF => ⟨h.2.1, hF⟩
end Jvm.Pilot.@@N@@
namespace Jvm.Pilot.@@N@@
open Jvm Jvm.ClassFile Sem Op Lib Jvm.Free Jvm.Stand Jvm.Pilot.@@N@@.Jvm.D
/-! MADE BY PROGRAM (witnessworld.py) out of the Statement's table words and the real class files: 11 classes; the members and pool entries that the words name. The judged class is class 1, her method 1. -/
namespace start1
open Jvm.ClassFile
def u (s : String) : CpInfo := .utf8 (stringToUtf16 s)
/-- a pool by its gaps: so many unusable entries, then the entry; so many at the end -/
def gap : Nat → List CpInfo → List CpInfo
  | 0, r => r
  | n + 1, r => .unusable :: gap n r
def poolList (es : List (Nat × CpInfo)) (last : Nat) : List CpInfo := es.foldr (fun e r => gap e.1 (e.2 :: r)) (gap last [])
def pool (es : List (Nat × CpInfo)) (last : Nat) : Array CpInfo := ⟨poolList es last⟩
def fileOf (pool : Array CpInfo) (this : Nat) (attrs : Array Attribute := #[]) (ms : Array MethodInfo := #[]) (fl : Nat := 33) (sup : Nat := 0) (ifs : Array Nat := #[]) (fds : Array FieldInfo := #[]) : ClassFile where
  minorVersion := 0
  majorVersion := 65
  constantPool := pool
  accessFlags := fl
  thisClass := this
  superClass := sup
  interfaces := ifs
  fields := fds
  methods := ms
  attributes := attrs
def plain (name : String) (sup : Option ClassId) : Class where
  name := name
  kind := .ordinary
  loader := none
  accessFlags := 33
  super := sup
  interfaces := #[]
  cf := none
  fields := #[]
  methods := #[]
  instanceTypes := #[]
  staticTypes := #[]
  resolved := #[]
  callSites := []
  init := .initialized
  statics := none
  mirror := none

def pool0 : Array CpInfo := pool [(5, u "<init>"), (0, u "()V"), (1, .class_ 10), (1, u "java/lang/Object")] 113

def k0c0 : Code := { maxStack := 0, maxLocals := 1, code := object_method_1_code, exceptionTable := #[], attributes := #[] }
def k0m0 : Method := { name := "<init>", desc := "()V", sig := { parameters := [], returnType := none }, accessFlags := 1, code := some k0c0 }
/-- java/lang/Object -/
def k0 : Class := { plain "java/lang/Object" none with
  accessFlags := 33
  interfaces := #[]
  cf := some (fileOf pool0 8 #[] #[{ accessFlags := 1, nameIndex := 5, descriptorIndex := 6, attributes := #[] }] 33 0 #[] #[])
  fields := #[]
  methods := #[k0m0]
  instanceTypes := #[]
  staticTypes := #[]
  resolved := Array.replicate 124 none
  statics := none }

def pool1 : Array CpInfo := pool [(2, .class_ 4), (1, u "java/lang/Object"), (0, u "<init>"), (0, u "()V"), (0, .class_ 8), (0, u "com/example/shapewell/shapewell/validate/Sharing$Share"), (0, .methodref 7 10), (0, .nameAndType 5 11), (0, u "([IJ)V"), (0, .methodref 7 13), (0, .nameAndType 14 15), (0, u "offer"), (0, u "([JI)V"), (0, .class_ 17), (0, u "com/example/shapewell/shapewell/validate/ShareOfferPinLaw"), (2, u "law"), (0, u "(IIJJJJ)Z")] 11

def k1m0 : Method := { name := "<init>", desc := "()V", sig := { parameters := [], returnType := none }, accessFlags := 1, code := none }
def k1c1 : Code := { maxStack := 6, maxLocals := 27, code := code, exceptionTable := #[], attributes := #[] }
def k1m1 : Method := { name := "law", desc := "(IIJJJJ)Z", sig := { parameters := [.int, .int, .long, .long, .long, .long], returnType := some .boolean }, accessFlags := 9, code := some k1c1 }
/-- com/example/shapewell/shapewell/validate/ShareOfferPinLaw -/
def k1 : Class := { plain "com/example/shapewell/shapewell/validate/ShareOfferPinLaw" (some 0) with
  accessFlags := 49
  interfaces := #[]
  cf := some (fileOf pool1 16 #[] #[{ accessFlags := 1, nameIndex := 5, descriptorIndex := 6, attributes := #[] }, { accessFlags := 9, nameIndex := 20, descriptorIndex := 21, attributes := #[] }] 49 2 #[] #[])
  fields := #[]
  methods := #[k1m0, k1m1]
  instanceTypes := #[]
  staticTypes := #[]
  resolved := Array.replicate 33 none
  statics := none }

def pool2 : Array CpInfo := pool [(1, .methodref 2 3), (0, .class_ 4), (0, .nameAndType 5 6), (0, u "java/lang/Object"), (0, u "<init>"), (0, u "()V"), (0, .fieldref 8 9), (0, .class_ 10), (0, .nameAndType 11 12), (0, u "com/example/shapewell/shapewell/validate/Sharing$Share"), (0, u "targets"), (0, u "[I"), (0, .fieldref 8 14), (0, .nameAndType 15 16), (0, u "size"), (0, u "J"), (0, .fieldref 8 18), (0, .nameAndType 19 20), (0, u "given"), (0, u "[J"), (6, u "([IJ)V"), (12, u "offer"), (0, u "([JI)V"), (5, .class_ 48), (0, u "com/example/shapewell/shapewell/validate/Sharing")] 2

def k2c0 : Code := { maxStack := 3, maxLocals := 4, code := prog_113_method_1_code, exceptionTable := #[], attributes := #[] }
def k2m0 : Method := { name := "<init>", desc := "([IJ)V", sig := { parameters := [(.array .int), .long], returnType := none }, accessFlags := 0, code := some k2c0 }
def k2c1 : Code := { maxStack := 8, maxLocals := 7, code := prog_113_method_7_code, exceptionTable := #[], attributes := #[] }
def k2m1 : Method := { name := "offer", desc := "([JI)V", sig := { parameters := [(.array .long), .int], returnType := none }, accessFlags := 0, code := some k2c1 }
/-- com/example/shapewell/shapewell/validate/Sharing$Share -/
def k2 : Class := { plain "com/example/shapewell/shapewell/validate/Sharing$Share" (some 0) with
  accessFlags := 48
  interfaces := #[]
  cf := some (fileOf pool2 8 #[.nestHost 47] #[{ accessFlags := 0, nameIndex := 5, descriptorIndex := 27, attributes := #[] }, { accessFlags := 0, nameIndex := 40, descriptorIndex := 41, attributes := #[] }] 48 2 #[] #[{ accessFlags := 18, nameIndex := 11, descriptorIndex := 12, attributes := #[] }, { accessFlags := 18, nameIndex := 15, descriptorIndex := 16, attributes := #[] }, { accessFlags := 18, nameIndex := 19, descriptorIndex := 20, attributes := #[] }])
  fields := #[{ name := "targets", type := (.array .int), accessFlags := 18, slot := 0, constantValue := 0 }, { name := "size", type := .long, accessFlags := 18, slot := 1, constantValue := 0 }, { name := "given", type := (.array .long), accessFlags := 18, slot := 2, constantValue := 0 }]
  methods := #[k2m0, k2m1]
  instanceTypes := #[(.array .int), .long, (.array .long)]
  staticTypes := #[]
  resolved := Array.replicate 51 none
  statics := none }

def pool3 : Array CpInfo := pool [(1, u "java/lang/Cloneable"), (0, .class_ 1), (0, u "java/lang/Object"), (0, .class_ 3)] 3

/-- java/lang/Cloneable -/
def k3 : Class := { plain "java/lang/Cloneable" (some 0) with
  accessFlags := 1537
  interfaces := #[]
  cf := some (fileOf pool3 2 #[] #[] 1537 4 #[] #[])
  fields := #[]
  methods := #[]
  instanceTypes := #[]
  staticTypes := #[]
  resolved := Array.replicate 8 none
  statics := none }

def pool4 : Array CpInfo := pool [(1, u "java/io/Serializable"), (0, .class_ 1), (0, u "java/lang/Object"), (0, .class_ 3)] 3

/-- java/io/Serializable -/
def k4 : Class := { plain "java/io/Serializable" (some 0) with
  accessFlags := 1537
  interfaces := #[]
  cf := some (fileOf pool4 2 #[] #[] 1537 4 #[] #[])
  fields := #[]
  methods := #[]
  instanceTypes := #[]
  staticTypes := #[]
  resolved := Array.replicate 8 none
  statics := none }

/-- the primitive byte -/
def k5 : Class := { plain "byte" none with kind := .primitive 'B', accessFlags := 0x411 }
/-- [B -/
def k6 : Class := { plain "[B" (some 0) with kind := .array 5 .byte, interfaces := #[3, 4], accessFlags := 1041 }

/-- the primitive int -/
def k7 : Class := { plain "int" none with kind := .primitive 'I', accessFlags := 0x411 }
/-- [I -/
def k8 : Class := { plain "[I" (some 0) with kind := .array 7 .int, interfaces := #[3, 4], accessFlags := 1041 }

/-- the primitive long -/
def k9 : Class := { plain "long" none with kind := .primitive 'J', accessFlags := 0x411 }
/-- [J -/
def k10 : Class := { plain "[J" (some 0) with kind := .array 9 .long, interfaces := #[3, 4], accessFlags := 1041 }

def heap : Heap := #[]
def classes : Array Class := #[k0, k1, k2, k3, k4, k5, k6, k7, k8, k9, k10]
def interned : List (Array UInt16 × Addr) := []
def slotsUsed : Nat := 0
def theMethod : MethodId := ⟨1, 1⟩
def args0 : Array Value := #[.int 5, .int 7, .long 3, .long 4, .long 5, .long 6]
def aboutOver (below : List Frame) : State where
  vm := { classes := classes, interned := interned.toArray }
  heap := heap
  slotsUsed := slotsUsed
  threads := #[{ frames := .invoking theMethod args0 :: below }]
def below0 : List Frame := [.native { method := ⟨0, 0⟩, args := #[] }]
def about1 : State := aboutOver below0
def p0 : Program := .bare "" "" ""
def e0 : Env := launch0.env 0 0 0
theorem w_frames : about1.frames = Frame.invoking theMethod args0 :: below0 := rfl
set_option maxRecDepth 65536 in
theorem w_args : argsFit about1.vm theMethod args0 = true := by decide +kernel
set_option maxRecDepth 65536 in
theorem w_heap : heapFits about1 = true := by decide +kernel
set_option maxRecDepth 65536 in
theorem w_runnable : about1.curStatus? = some .runnable := by decide +kernel
set_option maxRecDepth 65536 in
theorem w_alone : about1.alone = true := by decide +kernel
set_option maxRecDepth 65536 in
theorem w_named : about1.methodNamed? x = some theMethod := by decide +kernel
set_option maxRecDepth 65536 in
theorem w_hears : about1.hears theMethod below0 = true := by decide +kernel
set_option maxRecDepth 65536 in
theorem w_ripe : about1.ripe theMethod args0 below0 = true := by decide +kernel
theorem w_running : about1.status = .running := rfl
set_option maxRecDepth 65536 in
theorem w_room : about1.hasRoom e0.platform room_1 = true :=
  launch0.hasRoom_least _ room_1 (by decide +kernel) (by decide +kernel) (by decide +kernel) (by decide +kernel) (by decide +kernel) (by decide +kernel)
theorem allAtoms_all (ts : List Jvm.Cond) (a : Array Jvm.Value) (st : Jvm.State) : (allAtoms ts).before a st = ts.all (fun c => c.before a st) := by
  induction ts with
  | nil => rfl
  | cons c t ih =>
    show (Jvm.Cond.and c (allAtoms t)).before a st = _
    rw [Jvm.Cond.before_and, ih, List.all_cons]
def words1 : List Jvm.Cond := Jvm.Cond.code x code maxLocals ret :: tables_1
/-- a 'code' word, met by the world's own term for the bytes: nothing is compared byte by byte -/
theorem code_word {y : MethodName} {bytes : ByteArray} {mx : Nat} {rt : Option FieldType} {a : Array Value} {s : State} {m : MethodId} {meth : Method} {c : Code} (h1 : s.methodNamed? y = some m) (h2 : s.vm.method? m = some meth) (h3 : meth.code = some c) (h4 : c.code = bytes)
    (h5 : (c.maxLocals == mx && c.exceptionTable.isEmpty && decide (c.maxStack ≤ mostOperands) && decide (meth.sig.returnType = rt) && !meth.locks && decide (parseMethodDescriptor y.desc = some meth.sig)) = true) : (Jvm.Cond.code y bytes mx rt).before a s = true := by
  simp only [Bool.and_eq_true, beq_iff_eq, Bool.not_eq_true', decide_eq_true_eq] at h5
  obtain ⟨⟨⟨⟨⟨g1, g2⟩, g3⟩, g4⟩, g5⟩, g6⟩ := h5
  simp [Cond.before, Cond.holds, Cond.value, h1, h2, h3, h4, g1, g2, g3, g4, g5, g6]
def isCode : Jvm.Cond → Bool
  | .code _ _ _ _ => true
  | _ => false
theorem all_split {L : List Jvm.Cond} {P : Jvm.Cond → Bool} (h1 : L.all (fun c => isCode c || P c) = true) (h2 : ∀ c ∈ L.filter isCode, P c = true) : L.all P = true := by
  refine List.all_eq_true.mpr fun c hc => ?_
  have h := List.all_eq_true.mp h1 c hc
  rcases Bool.eq_false_or_eq_true (isCode c) with hi | hi
  · exact h2 c (List.mem_filter.mpr ⟨hc, hi⟩)
  · simpa [hi] using h
set_option maxRecDepth 65536 in
theorem w_c0 : (Jvm.Cond.code x code maxLocals ret).before args0 about1 = true := code_word (m := ⟨1, 1⟩) (meth := k1m1) (c := k1c1) (by decide +kernel) rfl rfl rfl (by decide +kernel)
set_option maxRecDepth 65536 in
theorem w_c1 : (Jvm.Cond.code ({ cls := "com/example/shapewell/shapewell/validate/Sharing$Share", name := "<init>", desc := "([IJ)V" } : Jvm.MethodName) prog_113_method_1_code (4 : Nat) (Option.none : Option Jvm.ClassFile.FieldType)).before args0 about1 = true := code_word (m := ⟨2, 0⟩) (meth := k2m0) (c := k2c0) (by decide +kernel) rfl rfl rfl (by decide +kernel)
set_option maxRecDepth 65536 in
theorem w_c2 : (Jvm.Cond.code ({ cls := "java/lang/Object", name := "<init>", desc := "()V" } : Jvm.MethodName) object_method_1_code (1 : Nat) (Option.none : Option Jvm.ClassFile.FieldType)).before args0 about1 = true := code_word (m := ⟨0, 0⟩) (meth := k0m0) (c := k0c0) (by decide +kernel) rfl rfl rfl (by decide +kernel)
set_option maxRecDepth 65536 in
theorem w_c3 : (Jvm.Cond.code ({ cls := "com/example/shapewell/shapewell/validate/Sharing$Share", name := "offer", desc := "([JI)V" } : Jvm.MethodName) prog_113_method_7_code (7 : Nat) (Option.none : Option Jvm.ClassFile.FieldType)).before args0 about1 = true := code_word (m := ⟨2, 1⟩) (meth := k2m1) (c := k2c1) (by decide +kernel) rfl rfl rfl (by decide +kernel)
def codes1 : List Jvm.Cond := [Jvm.Cond.code x code maxLocals ret, Jvm.Cond.code ({ cls := "com/example/shapewell/shapewell/validate/Sharing$Share", name := "<init>", desc := "([IJ)V" } : Jvm.MethodName) prog_113_method_1_code (4 : Nat) (Option.none : Option Jvm.ClassFile.FieldType), Jvm.Cond.code ({ cls := "java/lang/Object", name := "<init>", desc := "()V" } : Jvm.MethodName) object_method_1_code (1 : Nat) (Option.none : Option Jvm.ClassFile.FieldType), Jvm.Cond.code ({ cls := "com/example/shapewell/shapewell/validate/Sharing$Share", name := "offer", desc := "([JI)V" } : Jvm.MethodName) prog_113_method_7_code (7 : Nat) (Option.none : Option Jvm.ClassFile.FieldType)]
set_option maxRecDepth 65536 in
theorem codes_eq : words1.filter isCode = codes1 := rfl
theorem w_codes : ∀ c ∈ words1.filter isCode, c.before args0 about1 = true := by
  rw [codes_eq]
  intro c hc
  simp only [codes1, List.mem_cons, List.not_mem_nil, or_false] at hc
  rcases hc with rfl | rfl | rfl | rfl
  · exact w_c0
  · exact w_c1
  · exact w_c2
  · exact w_c3
set_option maxRecDepth 65536 in
theorem w_t1 : words1.all (fun c => isCode c || c.before args0 about1) = true := by decide +kernel
theorem w_tables : (allAtoms (Jvm.Cond.code x code maxLocals ret :: tables_1)).before args0 about1 = true := by
  rw [allAtoms_all]
  show words1.all (fun c => c.before args0 about1) = true
  refine all_split ?_ w_codes
  rw [w_t1]
set_option maxRecDepth 65536 in
theorem w_case : (Jvm.Cond.and given_1 narrow_1).before args0 about1 = true := by decide +kernel
theorem w_applies : (headSpec (Jvm.Cond.code x code maxLocals ret :: tables_1) room_1).applies x e0.platform about1 = true :=
  (Spec.applies_iff w_frames).mpr ⟨w_running, w_runnable, w_alone, w_named, w_hears, w_ripe, w_room, w_tables⟩
theorem atStart : AtStart classFile x code maxLocals ret World_1 tables_1 room_1 Calls_1 rest_1 Pre_1 launch0 p0 e0 about1 theMethod args0 below0 :=
  ⟨lists_1, trivial, launch0.admits_env _ _ _, launch0.least_env, fairChoices_fair.cas, fairChoices_fair.clock, w_frames, w_args, w_heap, w_applies, trivial, trivial, w_case⟩
end start1
theorem witness_1 : WitnessClaimed_1 := ⟨start1.p0, start1.e0, start1.about1, start1.theMethod, start1.args0, start1.below0, start1.atStart⟩
end Jvm.Pilot.@@N@@
