import JvmDerived
import JvmDerived.Pilot.@@N@@Statement
import JvmDerived.Pilot.@@N@@Code
set_option linter.unusedVariables false
set_option linter.unusedSimpArgs false

namespace Jvm.RoadKit
open Sem ClassFile Op Lib Jvm.Stand Jvm.Free Jvm.LawKit
section New
variable {p : Program} {l : Launch} {e : Env} {R : Room} {s : State} {m : MethodId} {args : Array Value} {below : List Frame} {meth : Method} {c : Code} {T : State} {locs : List Loc} {cells slots : Nat}
theorem retI (X : Stand p l e R s m args below meth c T locs cells slots) (hx : p.tables.exec = Jvm.exec) {pc : Nat} {Ls : Array Slot} {z : Int32} {rest : List Value} (hret : meth.sig.returnType = some .int) (hd : decode c.code pc = .ok (.ireturn, 1)) {fs : List Frame}
    (hl : ∀ (f : JFrame) (acts : List Action), f.method = m → f.locked = none → f.entered = [] → (doReturn e (T.setTop f) acts (some (.int z))).1 = T.setFrames fs) : Steps p.tables e below (T.setTop (mkF m pc Ls (.int z :: rest))) (T.setFrames fs) := by
  exact retOut X hx hret rfl (Or.inl ⟨rfl, Or.inl rfl, _, rfl⟩) hd hl
end New
end Jvm.RoadKit

namespace Jvm.Pilot.@@N@@
open Jvm Jvm.ClassFile Sem Op Lib Jvm.Free Jvm.Stand Jvm.LawKit Jvm.RoadKit Bundle Jvm.Pilot.@@N@@.Jvm.D

/-! arrays by a function of the place: what each place holds -/
def oUpd (f : Nat → Value) (k : Nat) (v : Value) : Nat → Value := fun i => if i = k then v else f i
def OArr (Z : State) (h : Heap) (a : Addr) (ty : FieldType) (n : Nat) (f : Nat → Value) : Prop := ∃ c : Cell, Arr Z h a c ty ∧ c.slots.size = n ∧ ∀ i, i < n → c.slots[i]? = some (f i)
section OArrFacts
variable {Z : State} {h h' : Heap} {a b : Addr} {ty : FieldType} {n : Nat} {f : Nat → Value} {sl : Nat} {v : Value} {ws : List Addr}
theorem oUpd_same (f : Nat → Value) (k : Nat) (v : Value) : oUpd f k v k = v := if_pos rfl
theorem oUpd_ne {f : Nat → Value} {k i : Nat} {v : Value} (h : i ≠ k) : oUpd f k v i = f i := if_neg h
theorem OArr.lt (F : OArr Z h a ty n f) : a < h.size := by obtain ⟨c, A, -⟩ := F; exact A.lt
theorem OArr.ext (F : OArr Z h a ty n f) (E : Ext h h') : OArr Z h' a ty n f := by obtain ⟨c, A, r⟩ := F; exact ⟨c, A.ext E, r⟩
theorem OArr.other (F : OArr Z h b ty n f) (W : Wr h h' a sl v) (q : b ≠ a) : OArr Z h' b ty n f := by obtain ⟨c, A, r⟩ := F; exact ⟨c, A.other W q, r⟩
theorem OArr.keep (F : OArr Z h a ty n f) (K : Keep h h' ws) (q : a ∉ ws) : OArr Z h' a ty n f := by obtain ⟨c, A, r⟩ := F; exact ⟨c, ⟨K.2.1 a c A.1 q, A.2⟩, r⟩
theorem OArr.congr {f' : Nat → Value} (F : OArr Z h a ty n f) (q : ∀ i, i < n → f i = f' i) : OArr Z h a ty n f' := by obtain ⟨c, A, S, H⟩ := F; exact ⟨c, A, S, fun i hi => by rw [← q i hi]; exact H i hi⟩
theorem OArr.set (F : OArr Z h a ty n f) {k : Nat} (hk : k < n) (W : Wr h h' a k v) : OArr Z h' a ty n (oUpd f k v) := by
  obtain ⟨c, A, S, H⟩ := F
  refine ⟨_, A.same W, by rw [sz_set]; exact S, fun i hi => ?_⟩
  by_cases q : i = k
  · subst q; rw [oUpd_same]; simp [Cell.setSlot, S, hi]
  · rw [oUpd_ne q]; show (c.slots.setIfInBounds k v)[i]? = _
    rw [Array.getElem?_setIfInBounds_ne (Ne.symm q)]; exact H i hi
theorem o_idx {j : Int32} {k : Nat} (h : j.toInt = (k : Int)) : ¬ j < 0 ∧ j.toNatClampNeg = k := by
  refine ⟨?_, ?_⟩
  · rw [Int32.lt_iff_toInt_lt]; show ¬ j.toInt < 0; omega
  · simp only [Int32.toNatClampNeg]; omega
theorem o_in {cl : Cell} {j : Int32} {k n : Nat} (S : cl.slots.size = n) (h : j.toInt = (k : Int)) (hk : k < n) : ¬ (j < 0 ∨ cl.slots.size ≤ j.toNatClampNeg) := by
  obtain ⟨q1, q2⟩ := o_idx h
  rw [S, q2]; intro z; rcases z with z | z
  · exact q1 z
  · omega
end OArrFacts
section OArrLaws
variable {p : Program} {l : Launch} {e : Env} {R : Room} {s : State} {m : MethodId} {args : Array Value} {below : List Frame} {meth : Method} {c : Code} {T : State} {locs : List Loc} {cells slots : Nat} {Z : State} {h : Heap} {a : Addr} {n : Nat} {f : Nat → Value} {a0 : Array Value}
theorem oStI (X : Stand p l e R s m args below meth c T locs cells slots) (hx : p.tables.exec = Jvm.exec) (hZ : Z.Warmed39 s.vm) (eT : T.heap = h) (A : OArr Z h a .int n f) {j x : Int32} {k : Nat} (hj : j.toInt = (k : Int)) (hk : k < n) {g : JFrame} (hg : g.method = m) {rest : List Value} (hs : g.stack = .int x :: .int j :: .ref a :: rest) (hd : decode c.code g.pc = .ok (.iastore, 1)) :
    ∃ T' h', Stand p l e R s m args below meth c T' (locs ++ [⟨a, k⟩]) cells slots ∧ T'.heap = h' ∧ Wr h h' a k (.int x) ∧ OArr Z h' a .int n (oUpd f k (.int x)) ∧ ∀ target, Steps p.tables e below (T'.setTop { g with pc := g.pc + 1, stack := rest }) target → Steps p.tables e below (T.setTop g) target := by
  obtain ⟨cl, Ar, S, H⟩ := A
  obtain ⟨T', h', X', e', W', st⟩ := stI X hx hZ eT Ar (o_in S hj hk) hg hs hd
  rw [(o_idx hj).2] at X' W'
  exact ⟨T', h', X', e', W', OArr.set ⟨cl, Ar, S, H⟩ hk W', st⟩
theorem oStJ (X : Stand p l e R s m args below meth c T locs cells slots) (hx : p.tables.exec = Jvm.exec) (hZ : Z.Warmed39 s.vm) (eT : T.heap = h) (A : OArr Z h a .long n f) {j : Int32} {x : Int64} {k : Nat} (hj : j.toInt = (k : Int)) (hk : k < n) {g : JFrame} (hg : g.method = m) {rest : List Value} (hs : g.stack = .long x :: .int j :: .ref a :: rest) (hd : decode c.code g.pc = .ok (.lastore, 1)) :
    ∃ T' h', Stand p l e R s m args below meth c T' (locs ++ [⟨a, k⟩]) cells slots ∧ T'.heap = h' ∧ Wr h h' a k (.long x) ∧ OArr Z h' a .long n (oUpd f k (.long x)) ∧ ∀ target, Steps p.tables e below (T'.setTop { g with pc := g.pc + 1, stack := rest }) target → Steps p.tables e below (T.setTop g) target := by
  obtain ⟨cl, Ar, S, H⟩ := A
  obtain ⟨T', h', X', e', W', st⟩ := stJ X hx hZ eT Ar (o_in S hj hk) hg hs hd
  rw [(o_idx hj).2] at X' W'
  exact ⟨T', h', X', e', W', OArr.set ⟨cl, Ar, S, H⟩ hk W', st⟩
theorem oStZ (X : Stand p l e R s m args below meth c T locs cells slots) (hx : p.tables.exec = Jvm.exec) (hZ : Z.Warmed39 s.vm) (eT : T.heap = h) (A : OArr Z h a .boolean n f) {j x : Int32} {k : Nat} (hj : j.toInt = (k : Int)) (hk : k < n) {g : JFrame} (hg : g.method = m) {rest : List Value} (hs : g.stack = .int x :: .int j :: .ref a :: rest) (hd : decode c.code g.pc = .ok (.bastore, 1)) :
    ∃ T' h', Stand p l e R s m args below meth c T' (locs ++ [⟨a, k⟩]) cells slots ∧ T'.heap = h' ∧ Wr h h' a k (.int (x &&& 1)) ∧ OArr Z h' a .boolean n (oUpd f k (.int (x &&& 1))) ∧ ∀ target, Steps p.tables e below (T'.setTop { g with pc := g.pc + 1, stack := rest }) target → Steps p.tables e below (T.setTop g) target := by
  obtain ⟨cl, Ar, S, H⟩ := A
  obtain ⟨T', h', X', e', W', st⟩ := stZ X hx hZ eT Ar (o_in S hj hk) hg hs hd
  rw [(o_idx hj).2] at X' W'
  exact ⟨T', h', X', e', W', OArr.set ⟨cl, Ar, S, H⟩ hk W', st⟩
theorem oLdI (X : Stand p l e R s m args below meth c T locs cells slots) (hx : p.tables.exec = Jvm.exec) (hZ : Z.Warmed39 s.vm) (eT : T.heap = h) (A : OArr Z h a .int n f) {j : Int32} {k : Nat} (hj : j.toInt = (k : Int)) (hk : k < n) {v : Int32} (hv : f k = .int v) {g : JFrame} (hg : g.method = m) {rest : List Value} (hs : g.stack = .int j :: .ref a :: rest) (hd : decode c.code g.pc = .ok (.iaload, 1)) :
    ∀ target, Steps p.tables e below (T.setTop { g with pc := g.pc + 1, stack := .int v :: rest }) target → Steps p.tables e below (T.setTop g) target := by
  obtain ⟨cl, Ar, S, H⟩ := A
  have ha := H k hk
  rw [hv] at ha
  exact X.iaload hx (j := j) (v := .int v) (by rw [eT]; exact Ar.1) (State.isArrayOf_alike hZ.alike Ar.2.1) Ar.2.2 (o_in S hj hk) (by rw [(o_idx hj).2]; exact ha) hg hs hd
theorem oLdJ (X : Stand p l e R s m args below meth c T locs cells slots) (hx : p.tables.exec = Jvm.exec) (hZ : Z.Warmed39 s.vm) (eT : T.heap = h) (A : OArr Z h a .long n f) {j : Int32} {k : Nat} (hj : j.toInt = (k : Int)) (hk : k < n) {v : Int64} (hv : f k = .long v) {g : JFrame} (hg : g.method = m) {rest : List Value} (hs : g.stack = .int j :: .ref a :: rest) (hd : decode c.code g.pc = .ok (.laload, 1)) :
    ∀ target, Steps p.tables e below (T.setTop { g with pc := g.pc + 1, stack := .long v :: rest }) target → Steps p.tables e below (T.setTop g) target := by
  obtain ⟨cl, Ar, S, H⟩ := A
  have ha := H k hk
  rw [hv] at ha
  exact X.laload hx (j := j) (v := .long v) (by rw [eT]; exact Ar.1) (State.isArrayOf_alike hZ.alike Ar.2.1) Ar.2.2 (o_in S hj hk) (by rw [(o_idx hj).2]; exact ha) hg hs hd
theorem oLdZ (X : Stand p l e R s m args below meth c T locs cells slots) (hx : p.tables.exec = Jvm.exec) (hZ : Z.Warmed39 s.vm) (eT : T.heap = h) (A : OArr Z h a .boolean n f) {j : Int32} {k : Nat} (hj : j.toInt = (k : Int)) (hk : k < n) {v : Int32} (hv : f k = .int v) {g : JFrame} (hg : g.method = m) {rest : List Value} (hs : g.stack = .int j :: .ref a :: rest) (hd : decode c.code g.pc = .ok (.baload, 1)) :
    ∀ target, Steps p.tables e below (T.setTop { g with pc := g.pc + 1, stack := .int v :: rest }) target → Steps p.tables e below (T.setTop g) target := by
  obtain ⟨cl, Ar, S, H⟩ := A
  have ha := H k hk
  rw [hv] at ha
  exact X.baloadBooleans hx (j := j) (v := .int v) (by rw [eT]; exact Ar.1) (State.isArrayOf_alike hZ.alike Ar.2.1) Ar.2.2 (o_in S hj hk) (by rw [(o_idx hj).2]; exact ha) hg hs hd
theorem oLdB (X : Stand p l e R s m args below meth c T locs cells slots) (hx : p.tables.exec = Jvm.exec) (hZ : Z.Warmed39 s.vm) (eT : T.heap = h) (A : OArr Z h a .byte n f) {j : Int32} {k : Nat} (hj : j.toInt = (k : Int)) (hk : k < n) {v : Int32} (hv : f k = .int v) {g : JFrame} (hg : g.method = m) {rest : List Value} (hs : g.stack = .int j :: .ref a :: rest) (hd : decode c.code g.pc = .ok (.baload, 1)) :
    ∀ target, Steps p.tables e below (T.setTop { g with pc := g.pc + 1, stack := .int v :: rest }) target → Steps p.tables e below (T.setTop g) target := by
  obtain ⟨cl, Ar, S, H⟩ := A
  have ha := H k hk
  rw [hv] at ha
  exact X.baloadBytes hx (j := j) (v := .int v) (by rw [eT]; exact Ar.1) (State.isArrayOf_alike hZ.alike Ar.2.1) Ar.2.2 (o_in S hj hk) (by rw [(o_idx hj).2]; exact ha) hg hs hd
theorem oLen {ty : FieldType} (X : Stand p l e R s m args below meth c T locs cells slots) (hx : p.tables.exec = Jvm.exec) (hZ : Z.Warmed39 s.vm) (eT : T.heap = h) (A : OArr Z h a ty n f) {N : Int32} (hN : N.toInt = (n : Int)) {g : JFrame} (hg : g.method = m) {rest : List Value} (hs : g.stack = .ref a :: rest) (hd : decode c.code g.pc = .ok (.arraylength, 1)) :
    ∀ target, Steps p.tables e below (T.setTop { g with pc := g.pc + 1, stack := .int N :: rest }) target → Steps p.tables e below (T.setTop g) target := by
  obtain ⟨cl, Ar, S, H⟩ := A
  have q := X.arraylength hx (by rw [eT]; exact Ar.1) (State.isArrayOf_alike hZ.alike Ar.2.1) hg hs hd
  have e1 : cl.slots.size.toInt32 = N := len_of (by rw [S]; exact (o_idx hN).2.symm) (o_idx hN).1
  rw [e1] at q
  exact q
theorem oNew (X : Stand p l e R s m args below meth c T locs cells slots) (hx : p.tables.exec = Jvm.exec) (hZ : Z.Warmed39 s.vm) {aty : ArrayType} (w : (Cond.arrayClass (newarray.typeOf aty)).before a0 Z = true) (eT : T.heap = h) {g : JFrame} (hg : g.method = m) (hd : decode c.code g.pc = .ok (.newarray aty, 2)) {z : Int32} {rest : List Value} (hs : g.stack = .int z :: rest)
    {k cap : Nat} (hn : z.toInt = (k : Int)) (hcap : k ≤ cap) (hb : cap * 8 ≤ 536870912) (hc : cells + 1 ≤ R.cells) (hl : slots + cap ≤ R.slots) :
    ∃ T' h', Stand p l e R s m args below meth c T' locs (cells + 1) (slots + cap) ∧ T'.heap = h' ∧ Ext h h' ∧ OArr Z h' h.size (newarray.typeOf aty) k (fun _ => defaultValue (newarray.typeOf aty)) ∧
      ∀ target, Steps p.tables e below (T'.setTop { g with pc := g.pc + 2, stack := .ref h.size :: rest }) target → Steps p.tables e below (T.setTop g) target := by
  obtain ⟨q1, q2⟩ := o_idx hn
  obtain ⟨T', h', cA, X', e', E', A', st⟩ := newP X hx hZ w eT hg hd hs q1 (cap := cap) (by rw [q2]; exact hcap) hb hc hl
  refine ⟨T', h', X', e', E', ⟨_, A', by rw [sz_new, q2], fun i hi => ?_⟩, st⟩
  simp [newA, q2, hi]
end OArrLaws

/-! linear probing over sixteen slots -/
def own_u {A : Type} (K : Nat → A) (j : Nat) (k : A) : Nat → A := fun i => if i = j then k else K i
theorem own_u_same {A : Type} (K : Nat → A) (j : Nat) (k : A) : own_u K j k j = k := if_pos rfl
theorem own_u_ne {A : Type} {K : Nat → A} {i j : Nat} {k : A} (h : i ≠ j) : own_u K j k i = K i := if_neg h
abbrev own_FREE : Int64 := -9223372036854775808
def own_f (K : Nat → Int64) (q : Int64) : Nat → Nat → Nat
  | 0, i => i
  | n + 1, i => if K i = own_FREE ∨ K i = q then i else own_f K q n ((i + 1) % 16)
theorem own_f_stopAt {K : Nat → Int64} {q : Int64} {n i : Nat} (h : K i = own_FREE ∨ K i = q) : own_f K q (n + 1) i = i := if_pos h
theorem own_f_go {K : Nat → Int64} {q : Int64} {n i : Nat} (h : ¬ (K i = own_FREE ∨ K i = q)) : own_f K q (n + 1) i = own_f K q n ((i + 1) % 16) := if_neg h
theorem own_f_lt {K : Nat → Int64} {q : Int64} : ∀ (n i : Nat), i < 16 → own_f K q n i < 16
  | 0, i, h => h
  | n + 1, i, h => by
    by_cases c : K i = own_FREE ∨ K i = q
    · rw [own_f_stopAt c]; exact h
    · rw [own_f_go c]; exact own_f_lt n _ (by omega)
theorem own_f_stop {K : Nat → Int64} {q : Int64} : ∀ (n i t : Nat), i < 16 → t < n → (K ((i + t) % 16) = own_FREE ∨ K ((i + t) % 16) = q) → K (own_f K q n i) = own_FREE ∨ K (own_f K q n i) = q
  | 0, i, t, _, ht, _ => by omega
  | n + 1, i, t, hi, ht, hs => by
    by_cases c : K i = own_FREE ∨ K i = q
    · rw [own_f_stopAt c]; exact c
    · rw [own_f_go c]
      match t, ht, hs with
      | 0, _, hs => exact absurd (by rwa [show (i + 0) % 16 = i by omega] at hs) c
      | t + 1, ht, hs => exact own_f_stop n _ t (by omega) (by omega) (by rwa [show ((i + 1) % 16 + t) % 16 = (i + (t + 1)) % 16 by omega])
theorem own_f_free {K : Nat → Int64} {q : Int64} {i : Nat} (hf : ∃ j, j < 16 ∧ K j = own_FREE) (hi : i < 16) : K (own_f K q 16 i) = own_FREE ∨ K (own_f K q 16 i) = q := by
  obtain ⟨j, hj, hK⟩ := hf
  exact own_f_stop 16 i ((j + 16 - i) % 16) hi (by omega) (Or.inl (by rwa [show (i + (j + 16 - i) % 16) % 16 = j by omega]))
/-- a key put into a free slot leaves the other roads as they were -/
theorem own_f_other {K : Nat → Int64} {q k : Int64} {j : Nat} (hj : K j = own_FREE) : ∀ (n i : Nat), own_f K q n i ≠ j → (K (own_f K q n i) = own_FREE ∨ K (own_f K q n i) = q) → own_f (own_u K j k) q n i = own_f K q n i
  | 0, i, _, _ => rfl
  | n + 1, i, hne, hs => by
    by_cases c : K i = own_FREE ∨ K i = q
    · rw [own_f_stopAt c] at hne ⊢
      exact own_f_stopAt (by rw [own_u_ne hne]; exact c)
    · rw [own_f_go c] at hne hs ⊢
      have hij : i ≠ j := fun e => c (Or.inl (e ▸ hj))
      rw [own_f_go (by rw [own_u_ne hij]; exact c)]
      exact own_f_other hj n _ hne hs
theorem own_f_same {K : Nat → Int64} {k : Int64} {j : Nat} (hj : K j = own_FREE) : ∀ (n i : Nat), own_f K k n i = j → own_f (own_u K j k) k n i = j
  | 0, i, h => h
  | n + 1, i, h => by
    by_cases e : i = j
    · subst e; exact own_f_stopAt (Or.inr (own_u_same _ _ _))
    · by_cases c : K i = own_FREE ∨ K i = k
      · rw [own_f_stopAt c] at h; exact absurd h e
      · rw [own_f_go c] at h
        rw [own_f_go (by rw [own_u_ne e]; exact c)]
        exact own_f_same hj n _ h
def own_h (k : Int64) : Nat := (k * (-7046029254386353131 : Int64)).toBitVec.toNat / 1152921504606846976
theorem own_h_lt (k : Int64) : own_h k < 16 := by have := (k * (-7046029254386353131 : Int64)).toBitVec.isLt; unfold own_h; omega
def own_slot (K : Nat → Int64) (q : Int64) : Nat := own_f K q 16 (own_h q)
theorem own_slot_lt (K : Nat → Int64) (q : Int64) : own_slot K q < 16 := own_f_lt _ _ (own_h_lt q)
def own_INV (K : Nat → Int64) : Prop := ∀ i, i < 16 → K i ≠ own_FREE → own_slot K (K i) = i
def own_cnt (K : Nat → Int64) : Nat → Nat
  | 0 => 0
  | n + 1 => own_cnt K n + if K n = own_FREE then 0 else 1
theorem own_cnt_full {K : Nat → Int64} : ∀ n, (∀ i, i < n → K i ≠ own_FREE) → own_cnt K n = n
  | 0, _ => rfl
  | n + 1, h => by rw [own_cnt, own_cnt_full n (fun i hi => h i (by omega)), if_neg (h n (by omega))]
theorem own_cnt_free {K : Nat → Int64} (h : own_cnt K 16 < 16) : ∃ j, j < 16 ∧ K j = own_FREE := by
  refine Classical.byContradiction fun hn => ?_
  have := own_cnt_full (K := K) 16 (fun i hi e => hn ⟨i, hi, e⟩)
  omega
theorem own_cnt_u {K : Nat → Int64} {j : Nat} {k : Int64} : ∀ n, own_cnt (own_u K j k) n ≤ own_cnt K n + if j < n then 1 else 0
  | 0 => Nat.zero_le _
  | n + 1 => by
    have ih := own_cnt_u (K := K) (j := j) (k := k) n
    rw [own_cnt, own_cnt]
    by_cases e : n = j
    · subst e
      rw [if_neg (Nat.lt_irrefl n)] at ih
      rw [if_pos (Nat.lt_succ_self n)]
      split <;> split <;> omega
    · rw [own_u_ne e]
      by_cases c : j < n
      · rw [if_pos c] at ih; rw [if_pos (show j < n + 1 by omega)]; omega
      · rw [if_neg c] at ih; rw [if_neg (show ¬ j < n + 1 by omega)]; omega
/-- what the map says of a key -/
def own_get (K V : Nat → Int64) (q : Int64) : Option Int64 := if K (own_slot K q) = own_FREE then none else some (V (own_slot K q))
def own_MP (K V : Nat → Int64) (M : Int64 → Option Int64) (n : Nat) : Prop := own_INV K ∧ own_cnt K 16 ≤ n ∧ ∀ q, q ≠ own_FREE → own_get K V q = M q
def own_mput (M : Int64 → Option Int64) (k v : Int64) : Int64 → Option Int64 := fun q => if q = k then some v else M q
theorem own_MP.free {K V : Nat → Int64} {M : Int64 → Option Int64} {n : Nat} (H : own_MP K V M n) (hn : n < 16) : ∃ j, j < 16 ∧ K j = own_FREE := own_cnt_free (Nat.lt_of_le_of_lt H.2.1 hn)
theorem own_MP.stop {K V : Nat → Int64} {M : Int64 → Option Int64} {n : Nat} (H : own_MP K V M n) (hn : n < 16) (q : Int64) : K (own_slot K q) = own_FREE ∨ K (own_slot K q) = q := own_f_free (H.free hn) (own_h_lt q)
theorem own_MP.absent {K V : Nat → Int64} {M : Int64 → Option Int64} {n : Nat} (H : own_MP K V M n) {q : Int64} (hq : q ≠ own_FREE) (h : K (own_slot K q) = own_FREE) : M q = none := by rw [← H.2.2 q hq, own_get, if_pos h]
theorem own_MP.present {K V : Nat → Int64} {M : Int64 → Option Int64} {n : Nat} (H : own_MP K V M n) {q : Int64} (hq : q ≠ own_FREE) (h : ¬ K (own_slot K q) = own_FREE) : M q = some (V (own_slot K q)) := by rw [← H.2.2 q hq, own_get, if_neg h]
/-- a new key -/
theorem own_MP.put {K V : Nat → Int64} {M : Int64 → Option Int64} {n : Nat} (H : own_MP K V M n) (hn : n < 15) {k v : Int64} (hk : k ≠ own_FREE) (h : K (own_slot K k) = own_FREE) :
    own_MP (own_u K (own_slot K k) k) (own_u V (own_slot K k) v) (own_mput M k v) (n + 1) := by
  have hcnt : own_cnt (own_u K (own_slot K k) k) 16 ≤ n + 1 := by
    have q := own_cnt_u (K := K) (j := own_slot K k) (k := k) 16
    rw [if_pos (own_slot_lt K k)] at q
    have := H.2.1; omega
  have hfree' : ∃ j, j < 16 ∧ own_u K (own_slot K k) k j = own_FREE := own_cnt_free (by omega)
  have hsame : own_slot (own_u K (own_slot K k) k) k = own_slot K k := own_f_same h 16 _ rfl
  have hoth : ∀ q, own_slot K q ≠ own_slot K k → own_slot (own_u K (own_slot K k) k) q = own_slot K q := fun q hq => own_f_other h 16 _ hq (H.stop (by omega) q)
  refine ⟨fun i hi hK => ?_, hcnt, fun q hq => ?_⟩
  · by_cases e : i = own_slot K k
    · rw [e, own_u_same]; exact hsame
    · rw [own_u_ne e] at hK ⊢
      have := H.1 i hi hK
      rw [hoth _ (by rw [this]; exact e)]; exact this
  · by_cases e : q = k
    · subst e
      rw [own_get, hsame, own_u_same, if_neg hk, own_u_same, own_mput, if_pos rfl]
    · rw [own_mput, if_neg e, ← H.2.2 q hq]
      by_cases c : own_slot K q = own_slot K k
      · have h0 : own_get K V q = none := by rw [own_get, c, if_pos h]
        rw [h0, own_get]
        have hs : own_u K (own_slot K k) k (own_slot (own_u K (own_slot K k) k) q) = own_FREE ∨ own_u K (own_slot K k) k (own_slot (own_u K (own_slot K k) k) q) = q := own_f_free hfree' (own_h_lt q)
        rcases hs with hs | hs
        · rw [if_pos hs]
        · exfalso
          have hne : own_slot (own_u K (own_slot K k) k) q ≠ own_slot K k := fun z => by rw [z, own_u_same] at hs; exact e hs.symm
          rw [own_u_ne hne] at hs
          have := H.1 _ (own_slot_lt _ q) (by rw [hs]; exact hq)
          rw [hs] at this
          exact hne (this.symm.trans c)
      · rw [own_get, hoth q c, own_u_ne c, own_u_ne c, own_get]
/-- a key that is there -/
theorem own_MP.set {K V : Nat → Int64} {M : Int64 → Option Int64} {n : Nat} (H : own_MP K V M n) (hn : n < 16) {k v : Int64} (hk : k ≠ own_FREE) (h : ¬ K (own_slot K k) = own_FREE) :
    own_MP K (own_u V (own_slot K k) v) (own_mput M k v) n := by
  refine ⟨H.1, H.2.1, fun q hq => ?_⟩
  by_cases e : q = k
  · subst e
    rw [own_get, if_neg h, own_u_same, own_mput, if_pos rfl]
  · rw [own_mput, if_neg e, ← H.2.2 q hq, own_get, own_get]
    by_cases c : K (own_slot K q) = own_FREE
    · rw [if_pos c, if_pos c]
    · have hq' : K (own_slot K q) = q := (H.stop hn q).resolve_left c
      have hk' : K (own_slot K k) = k := (H.stop hn k).resolve_left h
      have hne : own_slot K q ≠ own_slot K k := fun z => e (by rw [← hq', ← hk', z])
      rw [if_neg c, if_neg c, own_u_ne hne]
theorem own_MP.start : own_MP (fun _ => own_FREE) (fun _ => 0) (fun _ => none) 0 := by
  refine ⟨fun i _ h => absurd rfl h, by decide, fun q _ => by rw [own_get, if_pos rfl]⟩
/-! the two greatest totals -/
def own_J (T : Int32 → Int) (c1 c2 : Int) (F : Int32) : Prop := (∀ x, 0 ≤ T x) ∧ c1 = T F ∧ (∀ x, x ≠ F → T x ≤ c2) ∧ c2 ≤ c1 ∧ 0 ≤ c2 ∧ (c2 = 0 ∨ ∃ x, x ≠ F ∧ T x = c2)
def own_T1 (T : Int32 → Int) (o : Int32) (k : Int) : Int32 → Int := fun x => if x = o then T x + k else T x
theorem own_J.first {T : Int32 → Int} {c1 c2 : Int} {F : Int32} (H : own_J T c1 c2 F) {o : Int32} {k : Int} (hk : 0 < k) (e : F = o) : own_J (own_T1 T o k) (T o + k) c2 F := by
  obtain ⟨h1, h2, h3, h4, h5, h6⟩ := H
  subst e
  refine ⟨fun x => ?_, by simp [own_T1], fun x hx => by simp only [own_T1, if_neg hx]; exact h3 x hx, by omega, h5, ?_⟩
  · unfold own_T1; have := h1 x; split <;> omega
  · rcases h6 with h6 | ⟨x, hx, h6⟩
    · exact Or.inl h6
    · exact Or.inr ⟨x, hx, by simp only [own_T1, if_neg hx]; exact h6⟩
theorem own_J.over {T : Int32 → Int} {c1 c2 : Int} {F : Int32} (H : own_J T c1 c2 F) {o : Int32} {k : Int} (hk : 0 < k) (e : ¬ F = o) (hg : c1 < T o + k) : own_J (own_T1 T o k) (T o + k) c1 o := by
  obtain ⟨h1, h2, h3, h4, h5, h6⟩ := H
  refine ⟨fun x => ?_, by simp [own_T1], fun x hx => ?_, by omega, by omega, Or.inr ⟨F, e, by simp only [own_T1, if_neg e]; exact h2.symm⟩⟩
  · unfold own_T1; have := h1 x; split <;> omega
  · simp only [own_T1, if_neg hx]
    by_cases z : x = F
    · rw [z]; omega
    · have := h3 x z; omega
theorem own_J.below {T : Int32 → Int} {c1 c2 : Int} {F : Int32} (H : own_J T c1 c2 F) {o : Int32} {k c2' : Int} (hk : 0 < k) (e : ¬ F = o) (hg : ¬ c1 < T o + k) (hm1 : c2 ≤ c2') (hm2 : T o + k ≤ c2') (hm3 : c2' = c2 ∨ c2' = T o + k) : own_J (own_T1 T o k) c1 c2' F := by
  obtain ⟨h1, h2, h3, h4, h5, h6⟩ := H
  refine ⟨fun x => ?_, by simp only [own_T1, if_neg e]; exact h2, fun x hx => ?_, by omega, by omega, ?_⟩
  · unfold own_T1; have := h1 x; split <;> omega
  · unfold own_T1; have := h3 x hx; split
    · subst_vars; omega
    · omega
  · rcases hm3 with hm | hm
    · rcases h6 with h6 | ⟨x, hx, h6⟩
      · have := h1 o; omega
      · by_cases z : x = o
        · subst z; omega
        · exact Or.inr ⟨x, hx, by simp only [own_T1, if_neg z]; omega⟩
    · exact Or.inr ⟨o, fun z => e z.symm, by simp [own_T1, hm]⟩
/-- what is asked for: the greatest total among the others of a list -/
def own_EX (T : Int32 → Int) (ex : Int32) (E : Int) (L : List Int32) : Prop := 0 ≤ E ∧ (∀ x ∈ L, x ≠ ex → T x ≤ E) ∧ (E = 0 ∨ ∃ x ∈ L, x ≠ ex ∧ E = T x)
theorem own_EX.start (T : Int32 → Int) (ex : Int32) : own_EX T ex 0 [] := by
  refine ⟨Int.le_refl _, fun x h => ?_, Or.inl rfl⟩
  cases h
theorem own_EX.skip {T : Int32 → Int} {ex : Int32} {E : Int} {L : List Int32} (H : own_EX T ex E L) {x : Int32} (e : x = ex) : own_EX T ex E (x :: L) := by
  refine ⟨H.1, fun y hy hn => ?_, ?_⟩
  · rcases List.mem_cons.mp hy with z | z
    · exact absurd (z.trans e) hn
    · exact H.2.1 y z hn
  · rcases H.2.2 with q | ⟨y, hy, q⟩
    · exact Or.inl q
    · exact Or.inr ⟨y, List.mem_cons_of_mem _ hy, q⟩
theorem own_EX.take {T : Int32 → Int} {ex : Int32} {E E' : Int} {L : List Int32} (H : own_EX T ex E L) {x : Int32} (e : ¬ x = ex) (hE : E' = if E < T x then T x else E) : own_EX T ex E' (x :: L) := by
  obtain ⟨h1, h2, h3⟩ := H
  by_cases q : E < T x
  · rw [if_pos q] at hE
    refine ⟨by omega, fun y hy hn => ?_, Or.inr ⟨x, List.mem_cons_self .., e, hE⟩⟩
    rcases List.mem_cons.mp hy with z | z
    · rw [z]; omega
    · have := h2 y z hn; omega
  · rw [if_neg q] at hE
    subst hE
    refine ⟨h1, fun y hy hn => ?_, ?_⟩
    · rcases List.mem_cons.mp hy with z | z
      · rw [z]; omega
      · exact h2 y z hn
    · rcases h3 with z | ⟨y, hy, z⟩
      · exact Or.inl z
      · exact Or.inr ⟨y, List.mem_cons_of_mem _ hy, z⟩
theorem own_J.most {T : Int32 → Int} {c1 c2 : Int} {F : Int32} (H : own_J T c1 c2 F) {L : List Int32} {ex : Int32} {E : Int} (hz : ∀ x, x ∉ L → T x = 0) (hE : own_EX T ex E L) : (if F = ex then c2 else c1) = E := by
  obtain ⟨h1, h2, h3, h4, h5, h6⟩ := H
  obtain ⟨g1, g2, g3⟩ := hE
  have up : ∀ x, x ≠ ex → T x ≤ E := fun x hx => by
    by_cases z : x ∈ L
    · exact g2 x z hx
    · rw [hz x z]; exact g1
  by_cases e : F = ex
  · rw [if_pos e]
    have lo : E ≤ c2 := by
      rcases g3 with q | ⟨x, -, q1, q2⟩
      · omega
      · have := h3 x (fun z => q1 (z.trans e)); omega
    rcases h6 with h6 | ⟨x, hx, h6⟩
    · omega
    · have := up x (fun z => hx (z.trans e.symm)); omega
  · rw [if_neg e]
    have hl : c1 ≤ E := by rw [h2]; exact up F e
    have all : ∀ x, T x ≤ c1 := fun x => by
      by_cases z : x = F
      · rw [z]; omega
      · have := h3 x z; omega
    rcases g3 with q | ⟨x, -, -, q2⟩
    · have := h1 F; omega
    · have := all x; omega

def own_kv (K V : Nat → Int64) : Nat → Value := fun i => if i % 2 = 0 then .long (K (i / 2)) else .long (V (i / 2))
theorem own_kv_k (K V : Nat → Int64) (x : Nat) : own_kv K V (2 * x) = .long (K x) := by unfold own_kv; rw [if_pos (by omega), show 2 * x / 2 = x by omega]
theorem own_kv_v (K V : Nat → Int64) (x : Nat) : own_kv K V (2 * x + 1) = .long (V x) := by unfold own_kv; rw [if_neg (by omega), show (2 * x + 1) / 2 = x by omega]
theorem own_kv_uk (K V : Nat → Int64) (x : Nat) (k : Int64) : ∀ i, i < 32 → oUpd (own_kv K V) (2 * x) (.long k) i = own_kv (own_u K x k) V i := fun i _ => by
  by_cases q : i = 2 * x
  · subst q; rw [oUpd_same, own_kv_k, own_u_same]
  · rw [oUpd_ne q]; unfold own_kv
    by_cases z : i % 2 = 0
    · rw [if_pos z, if_pos z, own_u_ne (by omega)]
    · rw [if_neg z, if_neg z]
theorem own_kv_uv (K V : Nat → Int64) (x : Nat) (k : Int64) : ∀ i, i < 32 → oUpd (own_kv K V) (2 * x + 1) (.long k) i = own_kv K (own_u V x k) i := fun i _ => by
  by_cases q : i = 2 * x + 1
  · subst q; rw [oUpd_same, own_kv_v, own_u_same]
  · rw [oUpd_ne q]; unfold own_kv
    by_cases z : i % 2 = 0
    · rw [if_pos z, if_pos z]
    · rw [if_neg z, if_neg z, own_u_ne (by omega)]
def own_LM (Z : State) (h : Heap) (a sl us : Addr) (M : Int64 → Option Int64) (n : Nat) : Prop := Exa Z h a "com/example/headwater/headwater/headdriven/LongMap" ∧ Fld Z h a "com/example/headwater/headwater/headdriven/LongMap" "m_aSlots" "[J" (.ref sl) ∧ Fld Z h a "com/example/headwater/headwater/headdriven/LongMap" "m_aUsed" "[I" (.ref us) ∧ Fld Z h a "com/example/headwater/headwater/headdriven/LongMap" "m_nSize" "I" (.int (Int32.ofNat n)) ∧ Fld Z h a "com/example/headwater/headwater/headdriven/LongMap" "m_nSlots" "I" (.int (16 : Int32)) ∧ Fld Z h a "com/example/headwater/headwater/headdriven/LongMap" "m_nShift" "I" (.int (60 : Int32)) ∧ (∃ K V, OArr Z h sl .long 32 (own_kv K V) ∧ own_MP K V M n) ∧ ∃ u, OArr Z h us .int 8 u
section LMFacts
variable {Z : State} {h h' : Heap} {a sl us x : Addr} {M : Int64 → Option Int64} {n k : Nat} {v : Value} {ws : List Addr}
theorem own_LM.ext (F : own_LM Z h a sl us M n) (E : Ext h h') : own_LM Z h' a sl us M n := by
  obtain ⟨f1, f2, f3, f4, f5, f6, ⟨K, V, f7, f8⟩, u, f9⟩ := F
  exact ⟨f1.ext E, f2.ext E, f3.ext E, f4.ext E, f5.ext E, f6.ext E, ⟨K, V, f7.ext E, f8⟩, u, f9.ext E⟩
theorem own_LM.other (F : own_LM Z h a sl us M n) (W : Wr h h' x k v) (q1 : a ≠ x) (q2 : sl ≠ x) (q3 : us ≠ x) : own_LM Z h' a sl us M n := by
  obtain ⟨f1, f2, f3, f4, f5, f6, ⟨K, V, f7, f8⟩, u, f9⟩ := F
  exact ⟨f1.wr W, f2.other W (Or.inl q1), f3.other W (Or.inl q1), f4.other W (Or.inl q1), f5.other W (Or.inl q1), f6.other W (Or.inl q1), ⟨K, V, f7.other W q2, f8⟩, u, f9.other W q3⟩
theorem own_LM.keep (F : own_LM Z h a sl us M n) (Kp : Keep h h' ws) (q1 : a ∉ ws) (q2 : sl ∉ ws) (q3 : us ∉ ws) : own_LM Z h' a sl us M n := by
  obtain ⟨f1, f2, f3, f4, f5, f6, ⟨K, V, f7, f8⟩, u, f9⟩ := F
  exact ⟨f1.keep Kp, f2.keep Kp q1, f3.keep Kp q1, f4.keep Kp q1, f5.keep Kp q1, f6.keep Kp q1, ⟨K, V, f7.keep Kp q2, f8⟩, u, f9.keep Kp q3⟩
theorem own_LM.lt (F : own_LM Z h a sl us M n) : a < h.size := F.1.lt
theorem own_LM.lt1 (F : own_LM Z h a sl us M n) : sl < h.size := by obtain ⟨-, -, -, -, -, -, ⟨K, V, f7, -⟩, -⟩ := F; exact f7.lt
theorem own_LM.lt2 (F : own_LM Z h a sl us M n) : us < h.size := by obtain ⟨-, -, -, -, -, -, -, u, f9⟩ := F; exact f9.lt
end LMFacts
theorem own_sel {Z s : State} {a0 args : Array Value} {y : MethodName} {n : Nat} (hZ : Z.Warmed39 s.vm) (wi : (Cond.instantiable y.cls n).before a0 Z = true) (wm : (Cond.instanceMethod y).before a0 Z = true) (wp : (Cond.privateMethod y).before a0 Z = true) (hy : y.cls ≠ "java/lang/invoke/MethodHandle" ∧ y.cls ≠ "java/lang/invoke/VarHandle") : (Cond.selects y.cls y y).before args s = true := by
  obtain ⟨c, k, h1, h2, -, h4, -⟩ := Cond.instantiable_spec (mvT hZ wi : (Cond.instantiable y.cls n).before args s = true)
  exact selects_self_of_private h1 h2 (by simp only [Bool.or_eq_false_iff] at h4; exact h4.1) (Cond.privateMethod_at (mvP hZ wp (args := args))) (mvT hZ wm) hy
theorem own_lc {x y : Int64} (h : x = y) : lcmpW x y = 0 := by subst h; rw [lcW]; exact (lc_eq x x).mpr rfl
theorem own_lcn {x y : Int64} (h : ¬ x = y) : ¬ lcmpW x y = 0 := by rw [lcW]; exact fun q => h ((lc_eq x y).mp q)
theorem own_lcgt {x y : Int64} : (0 : Int32) < lcmpW x y ↔ y.toInt < x.toInt := by rw [lcW, lc_gt, Int64.lt_iff_toInt_lt]
theorem own_lclt {x y : Int64} : lcmpW x y < (0 : Int32) ↔ x.toInt < y.toInt := by rw [lcW, lc_lt, Int64.lt_iff_toInt_lt]
theorem own_nlt {i z : Int32} {a b : Nat} (h1 : i.toInt = (a : Int)) (h2 : z.toInt = (b : Int)) (h : ¬ a < b) : ¬ i < z := by rw [Int32.lt_iff_toInt_lt]; omega
theorem own_lt {i z : Int32} {a b : Nat} (h1 : i.toInt = (a : Int)) (h2 : z.toInt = (b : Int)) (h : a < b) : i < z := by rw [Int32.lt_iff_toInt_lt]; omega
theorem own_ofNat {n : Nat} (h : n < 1000) : (Int32.ofNat n).toInt = (n : Int) := Int32.toInt_ofNat_of_lt (by omega)
theorem own_inj32 {a b : Int32} {x : Int} (h1 : a.toInt = x) (h2 : b.toInt = x) : a = b := Int32.toInt_inj.mp (h1.trans h2.symm)
theorem own_addc {p : Int32} {n c : Nat} {d : Int32} (hd : d.toInt = (c : Int)) (h : p.toInt = (n : Int)) (hn : n < 1000) (hc : c < 1000) : (p + d).toInt = ((n + c : Nat) : Int) := by
  rw [Int32.toInt_add, h, hd, Int.bmod_def]; omega
theorem own_mulc {p : Int32} {n c : Nat} {d : Int32} (hd : d.toInt = (c : Int)) (h : p.toInt = (n : Int)) (hn : n < 1000) (hc : c < 1000) : (p * d).toInt = ((n * c : Nat) : Int) := by
  rw [Int32.toInt_mul, h, hd, Int.bmod_def]
  have : n * c < 1000000 := by
    calc n * c ≤ 999 * 999 := Nat.mul_le_mul (by omega) (by omega)
      _ < 1000000 := by decide
  omega
theorem own_dbl {p : Int32} {n : Nat} (h : p.toInt = (n : Int)) (hn : n < 1000) : ((2 : Int32) * p).toInt = ((2 * n : Nat) : Int) := by
  rw [Int32.toInt_mul, h, show (2 : Int32).toInt = 2 from rfl, Int.bmod_def]; omega
theorem own_hash (q : Int64) : ((((q * (-7046029254386353131 : Int64)).toUInt64 >>> ((60 : Int32) &&& 0x3f).toInt64.toUInt64).toInt64).toInt32).toInt = (own_h q : Int) := by
  generalize hx : q * (-7046029254386353131 : Int64) = x
  have e : ((x.toUInt64 >>> ((60 : Int32) &&& 0x3f).toInt64.toUInt64).toInt64).toBitVec = x.toBitVec >>> 60 := rfl
  have e2 : (((x.toUInt64 >>> ((60 : Int32) &&& 0x3f).toInt64.toUInt64).toInt64).toInt32).toBitVec = (x.toBitVec >>> 60).signExtend 32 := rfl
  have hl := own_h_lt q
  have e3 : own_h q = x.toBitVec.toNat / 1152921504606846976 := by rw [own_h, hx]
  have hl2 := x.toBitVec.isLt
  show (((x.toUInt64 >>> ((60 : Int32) &&& 0x3f).toInt64.toUInt64).toInt64).toInt32).toBitVec.toInt = _
  rw [e2, BitVec.toInt_signExtend, BitVec.toInt_eq_toNat_cond, BitVec.toNat_ushiftRight, Nat.shiftRight_eq_div_pow]
  rw [e3] at hl ⊢
  rw [if_pos (by omega), show (2 : Nat) ^ 60 = 1152921504606846976 by decide]
  generalize x.toBitVec.toNat / 1152921504606846976 = y at *
  rw [show min 32 64 = 32 by decide, Int.bmod_def]
  omega
def own_nn (M : Int64 → Option Int64) (k : Int64) (n : Nat) : Nat := if M k = none then n + 1 else n
theorem own_nn_le (M : Int64 → Option Int64) (k : Int64) (n : Nat) : own_nn M k n ≤ n + 1 := by unfold own_nn; split <;> omega

theorem dN1_0 : decode jdk_33_method_47_code 0 = .ok (.iload_n 0, 1) := by decide +kernel
theorem dN1_1 : decode jdk_33_method_47_code 1 = .ok (.ifCond .gt 14, 3) := by decide +kernel
theorem dN1_15 : decode jdk_33_method_47_code 15 = .ok (.bipush 31, 2) := by decide +kernel
theorem dN1_17 : decode jdk_33_method_47_code 17 = .ok (.istore_n 1, 1) := by decide +kernel
theorem dN1_18 : decode jdk_33_method_47_code 18 = .ok (.iload_n 0, 1) := by decide +kernel
theorem dN1_19 : decode jdk_33_method_47_code 19 = .ok (.ldc_w 264, 3) := by decide +kernel
theorem dN1_22 : decode jdk_33_method_47_code 22 = .ok (.if_icmp .lt 11, 3) := by decide +kernel
theorem dN1_33 : decode jdk_33_method_47_code 33 = .ok (.iload_n 0, 1) := by decide +kernel
theorem dN1_34 : decode jdk_33_method_47_code 34 = .ok (.sipush 256, 3) := by decide +kernel
theorem dN1_37 : decode jdk_33_method_47_code 37 = .ok (.if_icmp .lt 11, 3) := by decide +kernel
theorem dN1_48 : decode jdk_33_method_47_code 48 = .ok (.iload_n 0, 1) := by decide +kernel
theorem dN1_49 : decode jdk_33_method_47_code 49 = .ok (.bipush 16, 2) := by decide +kernel
theorem dN1_51 : decode jdk_33_method_47_code 51 = .ok (.if_icmp .lt 10, 3) := by decide +kernel
theorem dN1_61 : decode jdk_33_method_47_code 61 = .ok (.iload_n 0, 1) := by decide +kernel
theorem dN1_62 : decode jdk_33_method_47_code 62 = .ok (.iconst 4, 1) := by decide +kernel
theorem dN1_63 : decode jdk_33_method_47_code 63 = .ok (.if_icmp .lt 10, 3) := by decide +kernel
theorem dN1_66 : decode jdk_33_method_47_code 66 = .ok (.iinc 1 (-2), 3) := by decide +kernel
theorem dN1_69 : decode jdk_33_method_47_code 69 = .ok (.iload_n 0, 1) := by decide +kernel
theorem dN1_70 : decode jdk_33_method_47_code 70 = .ok (.iconst 2, 1) := by decide +kernel
theorem dN1_71 : decode jdk_33_method_47_code 71 = .ok (.iushr, 1) := by decide +kernel
theorem dN1_72 : decode jdk_33_method_47_code 72 = .ok (.istore_n 0, 1) := by decide +kernel
theorem dN1_73 : decode jdk_33_method_47_code 73 = .ok (.iload_n 1, 1) := by decide +kernel
theorem dN1_74 : decode jdk_33_method_47_code 74 = .ok (.iload_n 0, 1) := by decide +kernel
theorem dN1_75 : decode jdk_33_method_47_code 75 = .ok (.iconst 1, 1) := by decide +kernel
theorem dN1_76 : decode jdk_33_method_47_code 76 = .ok (.iushr, 1) := by decide +kernel
theorem dN1_77 : decode jdk_33_method_47_code 77 = .ok (.isub, 1) := by decide +kernel
theorem dN1_78 : decode jdk_33_method_47_code 78 = .ok (.ireturn, 1) := by decide +kernel
theorem pnN1 : plainName "java/lang/Integer" = true := by first | (simp [plainName, overriddenIn]; done) | decide +kernel
theorem efN1 (m : MethodId) (p1 : Int32) : entryFrame m #[(.int p1)] 2 = mkF m 0 #[.val (.int p1), .unset] [] := by first | (simp [entryFrame, mkF, argsToLocals, Value.category]; done) | rfl
def QN1 (Z : State) (p1 : Int32) (h0 : Heap) (n0 : Nat) (v : Option Value) (h : Heap) (L : List Loc) : Prop := v = some (.int (28 : Int32)) ∧ Fr n0 L ∧ h = h0
set_option maxRecDepth 65536 in
set_option maxHeartbeats 40000000 in
theorem rmN1 (l : Launch) (Z : State) (a0 : Array Value) (hw : ∀ d ∈ tables_1, d.before a0 Z = true) (ws : List Jvm.Cond) (p1 : Int32) (h0 : Heap) (n0 : Nat) (Z0 : n0 ≤ h0.size) (hp : p1 = (15 : Int32)) :
    MetFree l (⟨"java/lang/Integer", "numberOfLeadingZeros", "(I)I"⟩ : MethodName) (head1 (Jvm.Cond.code (⟨"java/lang/Integer", "numberOfLeadingZeros", "(I)I"⟩ : MethodName) jdk_33_method_47_code 2 (some .int) :: ws) ({ frames := 0, cells := 0, slots := 0, locals := 0 } : Room)) (fun a U => a = #[(.int p1)] ∧ Z.Warmed39 U.vm ∧ U.heap = h0) (fun _ _ _ _ _ => True) (fun _ U o U' => ∃ v L, o = .returned v ∧ QN1 Z p1 h0 n0 v U'.heap L ∧ FrameEnd U o U' L ({ frames := 0, cells := 0, slots := 0, locals := 0 } : Room).cells ({ frames := 0, cells := 0, slots := 0, locals := 0 } : Room).slots) := by
  refine MetFree.of_bodySF (plainFor_of_name pnN1) hisR ?_
  intro p e s m args below meth c s₁ Bd hml0 hP hK
  obtain ⟨rfl, hZ, hh⟩ := hP
  have hx := Bd.exec
  have hby := Bd.bytes
  have hml : c.maxLocals = 2 := hml0
  have hown : s.vm.findClass "java/lang/Integer" = some m.cls := findClass_of_methodNamed Bd.named
  have hnm := (name_of_methodNamed Bd.named Bd.method).1
  have X0 : Stand p l e ({ frames := 0, cells := 0, slots := 0, locals := 0 } : Room) s m #[(.int p1)] below meth c s₁ [] 0 0 := Stand.of_body Bd
  have e0 : s₁.heap = h0 := by rw [← hh, Bd.state]; rfl
  have N0 := Fr.nil n0
  have pre0 : ∀ t, Steps p.tables e below (s₁.setTop (mkF m 0 #[.val (.int p1), .unset] [])) t → Steps p.tables e below (s₁.setTop (entryFrame m #[(.int p1)] 2)) t := fun t k => castTop (efN1 m p1) k
  have pre1 : ∀ t_, Steps p.tables e below (s₁.setTop (mkF m 78 #[.val (.int ((p1.toUInt32 >>> ((2 : Int32) &&& 31).toUInt32).toInt32)), .val (.int ((31 : Int32) + (-2 : Int32)))] [(.int (((31 : Int32) + (-2 : Int32)) - ((((p1.toUInt32 >>> ((2 : Int32) &&& 31).toUInt32).toInt32).toUInt32 >>> ((1 : Int32) &&& 31).toUInt32).toInt32)))])) t_ → Steps p.tables e below (s₁.setTop (entryFrame m #[(.int p1)] 2)) t_ := fun t_ k_ => pre0 t_ (by
      refine XS.iloadN X0.here hx rfl (hb hby dN1_0) rfl ?_
      show Steps p.tables e below (s₁.setTop (mkF m 1 #[.val (.int p1), .unset] [(.int p1)])) _
      refine XS.ifYes X0.here hx rfl (pc0 := 1) (pc' := 15) rfl (hb hby dN1_1) rfl ((if0 _ _).trans (tlt (by rw [hp]; decide : (0 : Int32) < p1)).2.2.1) (by decide) (by decide) ?_
      show Steps p.tables e below (s₁.setTop (mkF m 15 #[.val (.int p1), .unset] [])) _
      refine XS.bipush X0.here hx rfl (hb hby dN1_15) ?_
      show Steps p.tables e below (s₁.setTop (mkF m 17 #[.val (.int p1), .unset] [(.int (31 : Int32))])) _
      refine XS.istoreN X0.here hx rfl (hb hby dN1_17) rfl (l' := #[.val (.int p1), .val (.int (31 : Int32))]) rfl ?_
      show Steps p.tables e below (s₁.setTop (mkF m 18 #[.val (.int p1), .val (.int (31 : Int32))] [])) _
      refine XS.iloadN X0.here hx rfl (hb hby dN1_18) rfl ?_
      show Steps p.tables e below (s₁.setTop (mkF m 19 #[.val (.int p1), .val (.int (31 : Int32))] [(.int p1)])) _
      refine X0.ldcwInt hx hown (mvT hZ (hw _ (List.mem_of_getElem? (i := 43) rfl))) (g := (mkF m 19 #[.val (.int p1), .val (.int (31 : Int32))] [(.int p1)])) rfl (hb hby dN1_19) _ ?_
      show Steps p.tables e below (s₁.setTop (mkF m 22 #[.val (.int p1), .val (.int (31 : Int32))] [(.int (65536 : Int32)), (.int p1)])) _
      refine XS.icmpYes X0.here hx rfl (pc0 := 22) (pc' := 33) rfl (hb hby dN1_22) rfl (tlt (by rw [hp]; decide : p1 < (65536 : Int32))).1 (by decide) (by decide) ?_
      show Steps p.tables e below (s₁.setTop (mkF m 33 #[.val (.int p1), .val (.int (31 : Int32))] [])) _
      refine XS.iloadN X0.here hx rfl (hb hby dN1_33) rfl ?_
      show Steps p.tables e below (s₁.setTop (mkF m 34 #[.val (.int p1), .val (.int (31 : Int32))] [(.int p1)])) _
      refine XS.sipush X0.here hx rfl (hb hby dN1_34) ?_
      show Steps p.tables e below (s₁.setTop (mkF m 37 #[.val (.int p1), .val (.int (31 : Int32))] [(.int (256 : Int32)), (.int p1)])) _
      refine XS.icmpYes X0.here hx rfl (pc0 := 37) (pc' := 48) rfl (hb hby dN1_37) rfl (tlt (by rw [hp]; decide : p1 < (256 : Int32))).1 (by decide) (by decide) ?_
      show Steps p.tables e below (s₁.setTop (mkF m 48 #[.val (.int p1), .val (.int (31 : Int32))] [])) _
      refine XS.iloadN X0.here hx rfl (hb hby dN1_48) rfl ?_
      show Steps p.tables e below (s₁.setTop (mkF m 49 #[.val (.int p1), .val (.int (31 : Int32))] [(.int p1)])) _
      refine XS.bipush X0.here hx rfl (hb hby dN1_49) ?_
      show Steps p.tables e below (s₁.setTop (mkF m 51 #[.val (.int p1), .val (.int (31 : Int32))] [(.int (16 : Int32)), (.int p1)])) _
      refine XS.icmpYes X0.here hx rfl (pc0 := 51) (pc' := 61) rfl (hb hby dN1_51) rfl (tlt (by rw [hp]; decide : p1 < (16 : Int32))).1 (by decide) (by decide) ?_
      show Steps p.tables e below (s₁.setTop (mkF m 61 #[.val (.int p1), .val (.int (31 : Int32))] [])) _
      refine XS.iloadN X0.here hx rfl (hb hby dN1_61) rfl ?_
      show Steps p.tables e below (s₁.setTop (mkF m 62 #[.val (.int p1), .val (.int (31 : Int32))] [(.int p1)])) _
      refine XS.iconst X0.here hx rfl (hb hby dN1_62) ?_
      show Steps p.tables e below (s₁.setTop (mkF m 63 #[.val (.int p1), .val (.int (31 : Int32))] [(.int (4 : Int32)), (.int p1)])) _
      refine XS.icmpNo X0.here hx rfl (hb hby dN1_63) rfl (flt (by rw [hp]; decide : ¬ (p1 < (4 : Int32)))).1 ?_
      show Steps p.tables e below (s₁.setTop (mkF m 66 #[.val (.int p1), .val (.int (31 : Int32))] [])) _
      refine XS.iinc X0.here hx rfl (hb hby dN1_66) rfl (l' := #[.val (.int p1), .val (.int ((31 : Int32) + (-2 : Int32)))]) rfl ?_
      show Steps p.tables e below (s₁.setTop (mkF m 69 #[.val (.int p1), .val (.int ((31 : Int32) + (-2 : Int32)))] [])) _
      refine XS.iloadN X0.here hx rfl (hb hby dN1_69) rfl ?_
      show Steps p.tables e below (s₁.setTop (mkF m 70 #[.val (.int p1), .val (.int ((31 : Int32) + (-2 : Int32)))] [(.int p1)])) _
      refine XS.iconst X0.here hx rfl (hb hby dN1_70) ?_
      show Steps p.tables e below (s₁.setTop (mkF m 71 #[.val (.int p1), .val (.int ((31 : Int32) + (-2 : Int32)))] [(.int (2 : Int32)), (.int p1)])) _
      refine XS.iushr X0.here hx rfl (hb hby dN1_71) rfl ?_
      show Steps p.tables e below (s₁.setTop (mkF m 72 #[.val (.int p1), .val (.int ((31 : Int32) + (-2 : Int32)))] [(.int ((p1.toUInt32 >>> ((2 : Int32) &&& 31).toUInt32).toInt32))])) _
      refine XS.istoreN X0.here hx rfl (hb hby dN1_72) rfl (l' := #[.val (.int ((p1.toUInt32 >>> ((2 : Int32) &&& 31).toUInt32).toInt32)), .val (.int ((31 : Int32) + (-2 : Int32)))]) rfl ?_
      show Steps p.tables e below (s₁.setTop (mkF m 73 #[.val (.int ((p1.toUInt32 >>> ((2 : Int32) &&& 31).toUInt32).toInt32)), .val (.int ((31 : Int32) + (-2 : Int32)))] [])) _
      refine XS.iloadN X0.here hx rfl (hb hby dN1_73) rfl ?_
      show Steps p.tables e below (s₁.setTop (mkF m 74 #[.val (.int ((p1.toUInt32 >>> ((2 : Int32) &&& 31).toUInt32).toInt32)), .val (.int ((31 : Int32) + (-2 : Int32)))] [(.int ((31 : Int32) + (-2 : Int32)))])) _
      refine XS.iloadN X0.here hx rfl (hb hby dN1_74) rfl ?_
      show Steps p.tables e below (s₁.setTop (mkF m 75 #[.val (.int ((p1.toUInt32 >>> ((2 : Int32) &&& 31).toUInt32).toInt32)), .val (.int ((31 : Int32) + (-2 : Int32)))] [(.int ((p1.toUInt32 >>> ((2 : Int32) &&& 31).toUInt32).toInt32)), (.int ((31 : Int32) + (-2 : Int32)))])) _
      refine XS.iconst X0.here hx rfl (hb hby dN1_75) ?_
      show Steps p.tables e below (s₁.setTop (mkF m 76 #[.val (.int ((p1.toUInt32 >>> ((2 : Int32) &&& 31).toUInt32).toInt32)), .val (.int ((31 : Int32) + (-2 : Int32)))] [(.int (1 : Int32)), (.int ((p1.toUInt32 >>> ((2 : Int32) &&& 31).toUInt32).toInt32)), (.int ((31 : Int32) + (-2 : Int32)))])) _
      refine XS.iushr X0.here hx rfl (hb hby dN1_76) rfl ?_
      show Steps p.tables e below (s₁.setTop (mkF m 77 #[.val (.int ((p1.toUInt32 >>> ((2 : Int32) &&& 31).toUInt32).toInt32)), .val (.int ((31 : Int32) + (-2 : Int32)))] [(.int ((((p1.toUInt32 >>> ((2 : Int32) &&& 31).toUInt32).toInt32).toUInt32 >>> ((1 : Int32) &&& 31).toUInt32).toInt32)), (.int ((31 : Int32) + (-2 : Int32)))])) _
      refine XS.isub X0.here hx rfl (hb hby dN1_77) rfl ?_
      show Steps p.tables e below (s₁.setTop (mkF m 78 #[.val (.int ((p1.toUInt32 >>> ((2 : Int32) &&& 31).toUInt32).toInt32)), .val (.int ((31 : Int32) + (-2 : Int32)))] [(.int (((31 : Int32) + (-2 : Int32)) - ((((p1.toUInt32 >>> ((2 : Int32) &&& 31).toUInt32).toInt32).toUInt32 >>> ((1 : Int32) &&& 31).toUInt32).toInt32)))])) _
      exact k_)
  obtain ⟨fs, hr, hrun, hended, hW, hsame⟩ := X0.leave (v := some (.int (((31 : Int32) + (-2 : Int32)) - ((((p1.toUInt32 >>> ((2 : Int32) &&& 31).toUInt32).toInt32).toUInt32 >>> ((1 : Int32) &&& 31).toUInt32).toInt32)))) (fun h => by rw [Bd.returns] at h; cases h)
  refine ⟨_, _, pre1 _ ?_, hrun, hended, _, _, rfl, ?_, ⟨_, rfl⟩, hW, hsame.mono (by decide) (by decide)⟩
  · exact retI X0 hx Bd.returns (hb hby dN1_78) hr
  · show QN1 Z p1 h0 n0 _ s₁.heap _
    rw [e0]
    exact ⟨congrArg (fun z => some (Value.int z)) (by rw [hp]; decide), N0, rfl⟩
theorem dN2_0 : decode jdk_35_method_48_code 0 = .ok (.lload_n 0, 1) := by decide +kernel
theorem dN2_1 : decode jdk_35_method_48_code 1 = .ok (.bipush 32, 2) := by decide +kernel
theorem dN2_3 : decode jdk_35_method_48_code 3 = .ok (.lushr, 1) := by decide +kernel
theorem dN2_4 : decode jdk_35_method_48_code 4 = .ok (.l2i, 1) := by decide +kernel
theorem dN2_5 : decode jdk_35_method_48_code 5 = .ok (.istore_n 2, 1) := by decide +kernel
theorem dN2_6 : decode jdk_35_method_48_code 6 = .ok (.iload_n 2, 1) := by decide +kernel
theorem dN2_7 : decode jdk_35_method_48_code 7 = .ok (.ifCond .ne 14, 3) := by decide +kernel
theorem dN2_10 : decode jdk_35_method_48_code 10 = .ok (.bipush 32, 2) := by decide +kernel
theorem dN2_12 : decode jdk_35_method_48_code 12 = .ok (.lload_n 0, 1) := by decide +kernel
theorem dN2_13 : decode jdk_35_method_48_code 13 = .ok (.l2i, 1) := by decide +kernel
theorem dN2_14 : decode jdk_35_method_48_code 14 = .ok (.invokestatic 308, 3) := by decide +kernel
theorem dN2_17 : decode jdk_35_method_48_code 17 = .ok (.iadd, 1) := by decide +kernel
theorem dN2_18 : decode jdk_35_method_48_code 18 = .ok (.goto 7, 3) := by decide +kernel
theorem dN2_25 : decode jdk_35_method_48_code 25 = .ok (.ireturn, 1) := by decide +kernel
theorem pdN2_0 : parseMethodDescriptor "(I)I" = some ⟨[.int], some .int⟩ := by decide +kernel
theorem pnN2 : plainName "java/lang/Long" = true := by first | (simp [plainName, overriddenIn]; done) | decide +kernel
theorem efN2 (m : MethodId) (q1 : Int64) : entryFrame m #[(.long q1)] 3 = mkF m 0 #[.val (.long q1), .second, .unset] [] := by first | (simp [entryFrame, mkF, argsToLocals, Value.category]; done) | rfl
def QN2 (Z : State) (q1 : Int64) (h0 : Heap) (n0 : Nat) (v : Option Value) (h : Heap) (L : List Loc) : Prop := v = some (.int (60 : Int32)) ∧ Fr n0 L ∧ h = h0
set_option maxRecDepth 65536 in
set_option maxHeartbeats 40000000 in
theorem rmN2 (l : Launch) (Z : State) (a0 : Array Value) (hw : ∀ d ∈ tables_1, d.before a0 Z = true) (ws : List Jvm.Cond) (q1 : Int64) (h0 : Heap) (n0 : Nat) (Z0 : n0 ≤ h0.size) (hq : q1 = (15 : Int64)) :
    MetFree l (⟨"java/lang/Long", "numberOfLeadingZeros", "(J)I"⟩ : MethodName) (head1 (Jvm.Cond.code (⟨"java/lang/Long", "numberOfLeadingZeros", "(J)I"⟩ : MethodName) jdk_35_method_48_code 3 (some .int) :: ws) ({ frames := 1, cells := 0, slots := 0, locals := 14 } : Room)) (fun a U => a = #[(.long q1)] ∧ Z.Warmed39 U.vm ∧ U.heap = h0) (fun _ _ _ _ _ => True) (fun _ U o U' => ∃ v L, o = .returned v ∧ QN2 Z q1 h0 n0 v U'.heap L ∧ FrameEnd U o U' L ({ frames := 1, cells := 0, slots := 0, locals := 14 } : Room).cells ({ frames := 1, cells := 0, slots := 0, locals := 14 } : Room).slots) := by
  refine MetFree.of_bodySF (plainFor_of_name pnN2) hisR ?_
  intro p e s m args below meth c s₁ Bd hml0 hP hK
  obtain ⟨rfl, hZ, hh⟩ := hP
  have hx := Bd.exec
  have hby := Bd.bytes
  have hml : c.maxLocals = 3 := hml0
  have hown : s.vm.findClass "java/lang/Long" = some m.cls := findClass_of_methodNamed Bd.named
  have hnm := (name_of_methodNamed Bd.named Bd.method).1
  have X0 : Stand p l e ({ frames := 1, cells := 0, slots := 0, locals := 14 } : Room) s m #[(.long q1)] below meth c s₁ [] 0 0 := Stand.of_body Bd
  have e0 : s₁.heap = h0 := by rw [← hh, Bd.state]; rfl
  have N0 := Fr.nil n0
  have pre0 : ∀ t, Steps p.tables e below (s₁.setTop (mkF m 0 #[.val (.long q1), .second, .unset] [])) t → Steps p.tables e below (s₁.setTop (entryFrame m #[(.long q1)] 3)) t := fun t k => castTop (efN2 m q1) k
  obtain ⟨_, _, ⟨T1, L1, k1, n1⟩, -, X1, ⟨Lc1, hQ1, l1, y1, z1⟩, st1⟩ := Jvm.LawKit.callS X0 hx (y := (⟨"java/lang/Integer", "numberOfLeadingZeros", "(I)I"⟩ : MethodName)) hown (mvT hZ (hw _ (List.mem_of_getElem? (i := 39) rfl))) (mvT hZ (hw _ (List.mem_of_getElem? (i := 40) rfl))) (mvT hZ (hw _ (List.mem_of_getElem? (i := 41) rfl))) (mvT hZ (hw _ (List.mem_of_getElem? (i := 42) rfl))) (by decide) (backOf (W := 1) (rmN1 l Z a0 hw [] (q1.toInt32)  h0 n0 Z0 (by rw [hq]; decide)) hZ (hw _ (List.mem_of_getElem? (i := 42) rfl)) (hw _ (List.mem_of_getElem? (i := 41) rfl)) (by decide) (by decide)) (g := (mkF m 14 #[.val (.long q1), .second, .val (.int (((q1.toUInt64 >>> ((32 : Int32) &&& 0x3f).toInt64.toUInt64).toInt64).toInt32))] [(.int (q1.toInt32)), (.int (32 : Int32))])) rfl (by rw [hml]; rfl) (argsL := [(.int (q1.toInt32))]) (rest := [(.int (32 : Int32))]) (lenOf pdN2_0 rfl) rfl (by show 2 * 0 + _ ≤ _; exact Nat.le_of_eq rfl) (hb hby dN2_14) (fun _ _ => ⟨rfl, e0, (by decide : 0 + 0 ≤ _), (by decide : 0 + 0 ≤ _)⟩)
  dsimp only [Pt.U, Pt.locs, Pt.cells, Pt.slots] at X1 l1 y1 z1 st1 hQ1
  subst l1 y1 z1
  obtain ⟨rfl, N1q, e1⟩ := hQ1
  have N1 := Fr.app N0 N1q
  have pre2 : ∀ t_, Steps p.tables e below (T1.setTop (mkF m 25 #[.val (.long q1), .second, .val (.int (((q1.toUInt64 >>> ((32 : Int32) &&& 0x3f).toInt64.toUInt64).toInt64).toInt32))] [(.int ((32 : Int32) + (28 : Int32)))])) t_ → Steps p.tables e below (s₁.setTop (entryFrame m #[(.long q1)] 3)) t_ := fun t_ k_ => pre0 t_ (by
      refine XS.lloadN X0.here hx rfl (hb hby dN2_0) rfl ?_
      show Steps p.tables e below (s₁.setTop (mkF m 1 #[.val (.long q1), .second, .unset] [(.long q1)])) _
      refine XS.bipush X0.here hx rfl (hb hby dN2_1) ?_
      show Steps p.tables e below (s₁.setTop (mkF m 3 #[.val (.long q1), .second, .unset] [(.int (32 : Int32)), (.long q1)])) _
      refine XS.lushr X0.here hx rfl (hb hby dN2_3) rfl ?_
      show Steps p.tables e below (s₁.setTop (mkF m 4 #[.val (.long q1), .second, .unset] [(.long ((q1.toUInt64 >>> ((32 : Int32) &&& 0x3f).toInt64.toUInt64).toInt64))])) _
      refine XS.l2i X0.here hx rfl (hb hby dN2_4) rfl ?_
      show Steps p.tables e below (s₁.setTop (mkF m 5 #[.val (.long q1), .second, .unset] [(.int (((q1.toUInt64 >>> ((32 : Int32) &&& 0x3f).toInt64.toUInt64).toInt64).toInt32))])) _
      refine XS.istoreN X0.here hx rfl (hb hby dN2_5) rfl (l' := #[.val (.long q1), .second, .val (.int (((q1.toUInt64 >>> ((32 : Int32) &&& 0x3f).toInt64.toUInt64).toInt64).toInt32))]) rfl ?_
      show Steps p.tables e below (s₁.setTop (mkF m 6 #[.val (.long q1), .second, .val (.int (((q1.toUInt64 >>> ((32 : Int32) &&& 0x3f).toInt64.toUInt64).toInt64).toInt32))] [])) _
      refine XS.iloadN X0.here hx rfl (hb hby dN2_6) rfl ?_
      show Steps p.tables e below (s₁.setTop (mkF m 7 #[.val (.long q1), .second, .val (.int (((q1.toUInt64 >>> ((32 : Int32) &&& 0x3f).toInt64.toUInt64).toInt64).toInt32))] [(.int (((q1.toUInt64 >>> ((32 : Int32) &&& 0x3f).toInt64.toUInt64).toInt64).toInt32))])) _
      refine XS.ifNo X0.here hx rfl (hb hby dN2_7) rfl ((if0 _ _).trans (teq (by rw [hq]; decide : (((q1.toUInt64 >>> ((32 : Int32) &&& 0x3f).toInt64.toUInt64).toInt64).toInt32) = (0 : Int32))).2) ?_
      show Steps p.tables e below (s₁.setTop (mkF m 10 #[.val (.long q1), .second, .val (.int (((q1.toUInt64 >>> ((32 : Int32) &&& 0x3f).toInt64.toUInt64).toInt64).toInt32))] [])) _
      refine XS.bipush X0.here hx rfl (hb hby dN2_10) ?_
      show Steps p.tables e below (s₁.setTop (mkF m 12 #[.val (.long q1), .second, .val (.int (((q1.toUInt64 >>> ((32 : Int32) &&& 0x3f).toInt64.toUInt64).toInt64).toInt32))] [(.int (32 : Int32))])) _
      refine XS.lloadN X0.here hx rfl (hb hby dN2_12) rfl ?_
      show Steps p.tables e below (s₁.setTop (mkF m 13 #[.val (.long q1), .second, .val (.int (((q1.toUInt64 >>> ((32 : Int32) &&& 0x3f).toInt64.toUInt64).toInt64).toInt32))] [(.long q1), (.int (32 : Int32))])) _
      refine XS.l2i X0.here hx rfl (hb hby dN2_13) rfl ?_
      show Steps p.tables e below (s₁.setTop (mkF m 14 #[.val (.long q1), .second, .val (.int (((q1.toUInt64 >>> ((32 : Int32) &&& 0x3f).toInt64.toUInt64).toInt64).toInt32))] [(.int (q1.toInt32)), (.int (32 : Int32))])) _
      refine st1 _ ?_
      show Steps p.tables e below (T1.setTop (mkF m 17 #[.val (.long q1), .second, .val (.int (((q1.toUInt64 >>> ((32 : Int32) &&& 0x3f).toInt64.toUInt64).toInt64).toInt32))] [(.int (28 : Int32)), (.int (32 : Int32))])) _
      refine XS.iadd X1.here hx rfl (hb hby dN2_17) rfl ?_
      show Steps p.tables e below (T1.setTop (mkF m 18 #[.val (.long q1), .second, .val (.int (((q1.toUInt64 >>> ((32 : Int32) &&& 0x3f).toInt64.toUInt64).toInt64).toInt32))] [(.int ((32 : Int32) + (28 : Int32)))])) _
      refine XS.goto X1.here hx rfl (pc0 := 18) (pc' := 25) rfl (hb hby dN2_18) (by decide) (by decide) ?_
      show Steps p.tables e below (T1.setTop (mkF m 25 #[.val (.long q1), .second, .val (.int (((q1.toUInt64 >>> ((32 : Int32) &&& 0x3f).toInt64.toUInt64).toInt64).toInt32))] [(.int ((32 : Int32) + (28 : Int32)))])) _
      exact k_)
  obtain ⟨fs, hr, hrun, hended, hW, hsame⟩ := X1.leave (v := some (.int ((32 : Int32) + (28 : Int32)))) (fun h => by rw [Bd.returns] at h; cases h)
  refine ⟨_, _, pre2 _ ?_, hrun, hended, _, _, rfl, ?_, ⟨_, rfl⟩, hW, hsame.mono (by decide) (by decide)⟩
  · exact retI X1 hx Bd.returns (hb hby dN2_25) hr
  · show QN2 Z q1 h0 n0 _ T1.heap _
    rw [e1]
    exact ⟨congrArg (fun z => some (Value.int z)) (by decide), N1, rfl⟩
def own_fr (j : Nat) : Nat → Value := fun x => .long (if x % 2 = 0 ∧ x < 2 * j then own_FREE else 0)
theorem own_fr_step (j : Nat) : ∀ i, i < 32 → oUpd (own_fr j) (2 * j) (.long (-9223372036854775808 : Int64)) i = own_fr (j + 1) i := fun i _ => by
  by_cases q : i = 2 * j
  · subst q; rw [oUpd_same]; unfold own_fr; rw [if_pos (by omega)]
  · rw [oUpd_ne q]; unfold own_fr
    by_cases z : i % 2 = 0 ∧ i < 2 * j
    · rw [if_pos z, if_pos (by omega)]
    · rw [if_neg z, if_neg (by omega)]
theorem own_fr_end : ∀ i, i < 32 → own_fr 16 i = own_kv (fun _ => own_FREE) (fun _ => 0) i := fun i hi => by
  unfold own_fr own_kv
  by_cases z : i % 2 = 0
  · rw [if_pos z, if_pos (by omega)]
  · rw [if_neg z, if_neg (by omega)]
theorem own_fr_zero : ∀ i, i < 32 → (fun _ => Value.long (0 : Int64)) i = own_fr 0 i := fun i hi => by
  unfold own_fr; rw [if_neg (by omega)]
theorem dU_0 : decode prog_51_method_2_code 0 = .ok (.iconst 2, 1) := by decide +kernel
theorem dU_1 : decode prog_51_method_2_code 1 = .ok (.iload_n 1, 1) := by decide +kernel
theorem dU_2 : decode prog_51_method_2_code 2 = .ok (.imul, 1) := by decide +kernel
theorem dU_3 : decode prog_51_method_2_code 3 = .ok (.aload_n 0, 1) := by decide +kernel
theorem dU_4 : decode prog_51_method_2_code 4 = .ok (.getfield 9, 3) := by decide +kernel
theorem dU_7 : decode prog_51_method_2_code 7 = .ok (.arraylength, 1) := by decide +kernel
theorem dU_8 : decode prog_51_method_2_code 8 = .ok (.if_icmp .le 47, 3) := by decide +kernel
theorem dU_11 : decode prog_51_method_2_code 11 = .ok (.aload_n 0, 1) := by decide +kernel
theorem dU_12 : decode prog_51_method_2_code 12 = .ok (.iconst 2, 1) := by decide +kernel
theorem dU_13 : decode prog_51_method_2_code 13 = .ok (.iload_n 1, 1) := by decide +kernel
theorem dU_14 : decode prog_51_method_2_code 14 = .ok (.imul, 1) := by decide +kernel
theorem dU_15 : decode prog_51_method_2_code 15 = .ok (.newarray .long, 2) := by decide +kernel
theorem dU_17 : decode prog_51_method_2_code 17 = .ok (.putfield 9, 3) := by decide +kernel
theorem dU_20 : decode prog_51_method_2_code 20 = .ok (.iconst 0, 1) := by decide +kernel
theorem dU_21 : decode prog_51_method_2_code 21 = .ok (.istore_n 2, 1) := by decide +kernel
theorem dU_22 : decode prog_51_method_2_code 22 = .ok (.iload_n 2, 1) := by decide +kernel
theorem dU_23 : decode prog_51_method_2_code 23 = .ok (.aload_n 0, 1) := by decide +kernel
theorem dU_24 : decode prog_51_method_2_code 24 = .ok (.getfield 9, 3) := by decide +kernel
theorem dU_27 : decode prog_51_method_2_code 27 = .ok (.arraylength, 1) := by decide +kernel
theorem dU_28 : decode prog_51_method_2_code 28 = .ok (.if_icmp .ge 18, 3) := by decide +kernel
theorem dU_31 : decode prog_51_method_2_code 31 = .ok (.aload_n 0, 1) := by decide +kernel
theorem dU_32 : decode prog_51_method_2_code 32 = .ok (.getfield 9, 3) := by decide +kernel
theorem dU_35 : decode prog_51_method_2_code 35 = .ok (.iload_n 2, 1) := by decide +kernel
theorem dU_36 : decode prog_51_method_2_code 36 = .ok (.ldc2_w 22, 3) := by decide +kernel
theorem dU_39 : decode prog_51_method_2_code 39 = .ok (.lastore, 1) := by decide +kernel
theorem dU_40 : decode prog_51_method_2_code 40 = .ok (.iinc 2 2, 3) := by decide +kernel
theorem dU_43 : decode prog_51_method_2_code 43 = .ok (.goto (-21), 3) := by decide +kernel
theorem dU_46 : decode prog_51_method_2_code 46 = .ok (.aload_n 0, 1) := by decide +kernel
theorem dU_47 : decode prog_51_method_2_code 47 = .ok (.iload_n 1, 1) := by decide +kernel
theorem dU_48 : decode prog_51_method_2_code 48 = .ok (.iconst 2, 1) := by decide +kernel
theorem dU_49 : decode prog_51_method_2_code 49 = .ok (.idiv, 1) := by decide +kernel
theorem dU_50 : decode prog_51_method_2_code 50 = .ok (.newarray .int, 2) := by decide +kernel
theorem dU_52 : decode prog_51_method_2_code 52 = .ok (.putfield 24, 3) := by decide +kernel
theorem dU_55 : decode prog_51_method_2_code 55 = .ok (.aload_n 0, 1) := by decide +kernel
theorem dU_56 : decode prog_51_method_2_code 56 = .ok (.iconst 0, 1) := by decide +kernel
theorem dU_57 : decode prog_51_method_2_code 57 = .ok (.putfield 28, 3) := by decide +kernel
theorem dU_60 : decode prog_51_method_2_code 60 = .ok (.aload_n 0, 1) := by decide +kernel
theorem dU_61 : decode prog_51_method_2_code 61 = .ok (.iload_n 1, 1) := by decide +kernel
theorem dU_62 : decode prog_51_method_2_code 62 = .ok (.putfield 32, 3) := by decide +kernel
theorem dU_65 : decode prog_51_method_2_code 65 = .ok (.aload_n 0, 1) := by decide +kernel
theorem dU_66 : decode prog_51_method_2_code 66 = .ok (.iload_n 1, 1) := by decide +kernel
theorem dU_67 : decode prog_51_method_2_code 67 = .ok (.i2l, 1) := by decide +kernel
theorem dU_68 : decode prog_51_method_2_code 68 = .ok (.lconst 1, 1) := by decide +kernel
theorem dU_69 : decode prog_51_method_2_code 69 = .ok (.lsub, 1) := by decide +kernel
theorem dU_70 : decode prog_51_method_2_code 70 = .ok (.invokestatic 35, 3) := by decide +kernel
theorem dU_73 : decode prog_51_method_2_code 73 = .ok (.putfield 39, 3) := by decide +kernel
theorem dU_76 : decode prog_51_method_2_code 76 = .ok (.return_, 1) := by decide +kernel
theorem pdU_0 : parseMethodDescriptor "(J)I" = some ⟨[.long], some .int⟩ := by decide +kernel
theorem pnU : plainName "com/example/headwater/headwater/headdriven/LongMap" = true := by first | (simp [plainName, overriddenIn]; done) | decide +kernel
theorem efU (m : MethodId) (a1 : Addr) (p2 : Int32) : entryFrame m #[(.ref a1), (.int p2)] 3 = mkF m 0 #[.val (.ref a1), .val (.int p2), .unset] [] := by first | (simp [entryFrame, mkF, argsToLocals, Value.category]; done) | rfl
def QU (Z : State) (a1 : Addr) (p2 : Int32) (sl0 : Addr) (f0 : Nat → Value) (h0 : Heap) (n0 : Nat) (v : Option Value) (h : Heap) (L : List Loc) : Prop := v = none ∧ Fr n0 L ∧ Keep h0 h [a1] ∧ ∃ sl us : Addr, n0 ≤ sl ∧ n0 ≤ us ∧ h0.size ≤ sl ∧ h0.size ≤ us ∧ sl ≠ us ∧ own_LM Z h a1 sl us (fun _ => none) 0
set_option maxRecDepth 65536 in
set_option maxHeartbeats 40000000 in
theorem rmU (l : Launch) (Z : State) (a0 : Array Value) (hw : ∀ d ∈ tables_1, d.before a0 Z = true) (ws : List Jvm.Cond) (a1 : Addr) (p2 : Int32) (sl0 : Addr) (f0 : Nat → Value) (h0 : Heap) (n0 : Nat) (Z0 : n0 ≤ h0.size) (E1 : Exa Z h0 a1 "com/example/headwater/headwater/headdriven/LongMap") (F1 : Fld Z h0 a1 "com/example/headwater/headwater/headdriven/LongMap" "m_aSlots" "[J" (.ref sl0)) (F2 : Fld Z h0 a1 "com/example/headwater/headwater/headdriven/LongMap" "m_aUsed" "[I" .null) (F3 : Fld Z h0 a1 "com/example/headwater/headwater/headdriven/LongMap" "m_nSize" "I" (.int (0 : Int32))) (F4 : Fld Z h0 a1 "com/example/headwater/headwater/headdriven/LongMap" "m_nSlots" "I" (.int (0 : Int32))) (F5 : Fld Z h0 a1 "com/example/headwater/headwater/headdriven/LongMap" "m_nShift" "I" (.int (0 : Int32))) (A0 : OArr Z h0 sl0 .long 0 f0) (ne0 : a1 ≠ sl0) (g1 : n0 ≤ a1) (hp : p2 = (16 : Int32)) :
    MetFree l (⟨"com/example/headwater/headwater/headdriven/LongMap", "_use", "(I)V"⟩ : MethodName) (head1 (Jvm.Cond.code (⟨"com/example/headwater/headwater/headdriven/LongMap", "_use", "(I)V"⟩ : MethodName) prog_51_method_2_code 3 none :: ws) ({ frames := 2, cells := 2, slots := 40, locals := 29 } : Room)) (fun a U => a = #[(.ref a1), (.int p2)] ∧ Z.Warmed39 U.vm ∧ U.heap = h0) (fun _ _ _ _ _ => True) (fun _ U o U' => ∃ v L, o = .returned v ∧ QU Z a1 p2 sl0 f0 h0 n0 v U'.heap L ∧ FrameEnd U o U' L ({ frames := 2, cells := 2, slots := 40, locals := 29 } : Room).cells ({ frames := 2, cells := 2, slots := 40, locals := 29 } : Room).slots) := by
  refine MetFree.of_bodySF (plainFor_of_name pnU) hisR ?_
  intro p e s m args below meth c s₁ Bd hml0 hP hK
  obtain ⟨rfl, hZ, hh⟩ := hP
  have hx := Bd.exec
  have hby := Bd.bytes
  have hml : c.maxLocals = 3 := hml0
  have hown : s.vm.findClass "com/example/headwater/headwater/headdriven/LongMap" = some m.cls := findClass_of_methodNamed Bd.named
  have hnm := (name_of_methodNamed Bd.named Bd.method).1
  have X0 : Stand p l e ({ frames := 2, cells := 2, slots := 40, locals := 29 } : Room) s m #[(.ref a1), (.int p2)] below meth c s₁ [] 0 0 := Stand.of_body Bd
  have e0 : s₁.heap = h0 := by rw [← hh, Bd.state]; rfl
  have N0 := Fr.nil n0
  have pre0 : ∀ t, Steps p.tables e below (s₁.setTop (mkF m 0 #[.val (.ref a1), .val (.int p2), .unset] [])) t → Steps p.tables e below (s₁.setTop (entryFrame m #[(.ref a1), (.int p2)] 3)) t := fun t k => castTop (efU m a1 p2) k
  obtain ⟨T1, X1, e1, st1⟩ := getF X0 hx hZ hown (host := "") (Or.inl (hw _ (List.mem_of_getElem? (i := 19) rfl))) Via.refl e0 F1 (g := (mkF m 4 #[.val (.ref a1), .val (.int p2), .unset] [(.ref a1), (.int ((2 : Int32) * p2))])) rfl rfl (hb hby dU_4)
  obtain ⟨T2, h2, X2, e2, E2, A2, st2⟩ := oNew X1 hx hZ (hw _ (List.mem_of_getElem? (i := 18) rfl)) e1 (g := (mkF m 15 #[.val (.ref a1), .val (.int p2), .unset] [(.int ((2 : Int32) * p2)), (.ref a1)])) rfl (hb hby dU_15) rfl (k := 32) (cap := 32) (by rw [hp]; decide) (by decide) (by decide) (by decide) (by decide)
  obtain ⟨nsl, g2⟩ : ∃ z, z = h0.size := ⟨_, rfl⟩
  rw [← g2] at A2 st2
  have ne3 : a1 ≠ nsl := Nat.ne_of_lt (Nat.lt_of_lt_of_le E1.lt (Nat.le_of_eq g2.symm))
  have ne4 : sl0 ≠ nsl := Nat.ne_of_lt (Nat.lt_of_lt_of_le A0.lt (Nat.le_of_eq g2.symm))
  have gg2 : n0 ≤ nsl := Nat.le_trans Z0 (Nat.le_of_eq g2.symm)
  have sz2 : h0.size ≤ nsl := Nat.le_trans (Keep.refl h0 [a1]).1 (Nat.le_of_eq g2.symm)
  have f5 := E1.ext E2
  have f6 := F1.ext E2
  have f7 := F2.ext E2
  have f8 := F3.ext E2
  have f9 := F4.ext E2
  have f10 := F5.ext E2
  have f11 := A0.ext E2
  have Z2 : n0 ≤ h2.size := Nat.le_trans Z0 E2.1
  have K2 := (Keep.refl h0 [a1]).ext E2
  have B2 : OArr Z h2 nsl .long 32 (fun _ => .long (0 : Int64)) := A2
  obtain ⟨T12, h12, X12, e12, W12, st12⟩ := putF X2 hx hZ hown (host := "") (Or.inl (hw _ (List.mem_of_getElem? (i := 19) rfl))) Via.refl e2 f6 f5 (Or.inl (hw _ (List.mem_of_getElem? (i := 20) rfl))) (hw _ (List.mem_of_getElem? (i := 12) rfl)) (ty := (.array .long)) (by decide) rfl rfl (g := (mkF m 17 #[.val (.ref a1), .val (.int p2), .unset] [(.ref nsl), (.ref a1)])) rfl rfl (hb hby dU_17)
  have Fw12 := f6.same W12
  have f13 := f5.wr W12
  have f14 := f7.other W12 (Or.inr (slot_ne (Or.inl (hw _ (List.mem_of_getElem? (i := 30) rfl))) (Or.inl (hw _ (List.mem_of_getElem? (i := 20) rfl))) (by decide) (t := (.array .int)) (t' := (.array .long)) (by decide) (by decide)))
  have f15 := f8.other W12 (Or.inr (slot_ne (Or.inl (hw _ (List.mem_of_getElem? (i := 32) rfl))) (Or.inl (hw _ (List.mem_of_getElem? (i := 20) rfl))) (by decide) (t := .int) (t' := (.array .long)) (by decide) (by decide)))
  have f16 := f9.other W12 (Or.inr (slot_ne (Or.inl (hw _ (List.mem_of_getElem? (i := 34) rfl))) (Or.inl (hw _ (List.mem_of_getElem? (i := 20) rfl))) (by decide) (t := .int) (t' := (.array .long)) (by decide) (by decide)))
  have f17 := f10.other W12 (Or.inr (slot_ne (Or.inl (hw _ (List.mem_of_getElem? (i := 45) rfl))) (Or.inl (hw _ (List.mem_of_getElem? (i := 20) rfl))) (by decide) (t := .int) (t' := (.array .long)) (by decide) (by decide)))
  have f18 := f11.other W12 (Ne.symm ne0)
  have f19 := B2.other W12 (Ne.symm ne3)
  have N12 := Fr.snoc X12 N0 g1
  have K12 := K2.wr W12 (Or.inl (List.mem_of_getElem? (i := 0) rfl))
  have Z12 : n0 ≤ h12.size := Nat.le_trans Z2 (Keep.of_wr W12).1
  have pre20 : ∀ t_, Steps p.tables e below (T12.setTop (mkF m 22 #[.val (.ref a1), .val (.int p2), .val (.int (0 : Int32))] [])) t_ → Steps p.tables e below (s₁.setTop (entryFrame m #[(.ref a1), (.int p2)] 3)) t_ := fun t_ k_ => pre0 t_ (by
      refine XS.iconst X0.here hx rfl (hb hby dU_0) ?_
      show Steps p.tables e below (s₁.setTop (mkF m 1 #[.val (.ref a1), .val (.int p2), .unset] [(.int (2 : Int32))])) _
      refine XS.iloadN X0.here hx rfl (hb hby dU_1) rfl ?_
      show Steps p.tables e below (s₁.setTop (mkF m 2 #[.val (.ref a1), .val (.int p2), .unset] [(.int p2), (.int (2 : Int32))])) _
      refine XS.imul X0.here hx rfl (hb hby dU_2) rfl ?_
      show Steps p.tables e below (s₁.setTop (mkF m 3 #[.val (.ref a1), .val (.int p2), .unset] [(.int ((2 : Int32) * p2))])) _
      refine XS.aloadN X0.here hx rfl (hb hby dU_3) rfl rfl ?_
      show Steps p.tables e below (s₁.setTop (mkF m 4 #[.val (.ref a1), .val (.int p2), .unset] [(.ref a1), (.int ((2 : Int32) * p2))])) _
      refine st1 _ ?_
      show Steps p.tables e below (T1.setTop (mkF m 7 #[.val (.ref a1), .val (.int p2), .unset] [(.ref sl0), (.int ((2 : Int32) * p2))])) _
      refine oLen X1 hx hZ e1 A0 (N := (0 : Int32)) rfl (g := (mkF m 7 #[.val (.ref a1), .val (.int p2), .unset] [(.ref sl0), (.int ((2 : Int32) * p2))])) rfl rfl (hb hby dU_7) _ ?_
      show Steps p.tables e below (T1.setTop (mkF m 8 #[.val (.ref a1), .val (.int p2), .unset] [(.int (0 : Int32)), (.int ((2 : Int32) * p2))])) _
      refine XS.icmpNo X1.here hx rfl (hb hby dU_8) rfl (tlt (by rw [hp]; decide : (0 : Int32) < ((2 : Int32) * p2))).2.2.2 ?_
      show Steps p.tables e below (T1.setTop (mkF m 11 #[.val (.ref a1), .val (.int p2), .unset] [])) _
      refine XS.aloadN X1.here hx rfl (hb hby dU_11) rfl rfl ?_
      show Steps p.tables e below (T1.setTop (mkF m 12 #[.val (.ref a1), .val (.int p2), .unset] [(.ref a1)])) _
      refine XS.iconst X1.here hx rfl (hb hby dU_12) ?_
      show Steps p.tables e below (T1.setTop (mkF m 13 #[.val (.ref a1), .val (.int p2), .unset] [(.int (2 : Int32)), (.ref a1)])) _
      refine XS.iloadN X1.here hx rfl (hb hby dU_13) rfl ?_
      show Steps p.tables e below (T1.setTop (mkF m 14 #[.val (.ref a1), .val (.int p2), .unset] [(.int p2), (.int (2 : Int32)), (.ref a1)])) _
      refine XS.imul X1.here hx rfl (hb hby dU_14) rfl ?_
      show Steps p.tables e below (T1.setTop (mkF m 15 #[.val (.ref a1), .val (.int p2), .unset] [(.int ((2 : Int32) * p2)), (.ref a1)])) _
      refine st2 _ ?_
      show Steps p.tables e below (T2.setTop (mkF m 17 #[.val (.ref a1), .val (.int p2), .unset] [(.ref nsl), (.ref a1)])) _
      refine st12 _ ?_
      show Steps p.tables e below (T12.setTop (mkF m 20 #[.val (.ref a1), .val (.int p2), .unset] [])) _
      refine XS.iconst X12.here hx rfl (hb hby dU_20) ?_
      show Steps p.tables e below (T12.setTop (mkF m 21 #[.val (.ref a1), .val (.int p2), .unset] [(.int (0 : Int32))])) _
      refine XS.istoreN X12.here hx rfl (hb hby dU_21) rfl (l' := #[.val (.ref a1), .val (.int p2), .val (.int (0 : Int32))]) rfl ?_
      show Steps p.tables e below (T12.setTop (mkF m 22 #[.val (.ref a1), .val (.int p2), .val (.int (0 : Int32))] [])) _
      exact k_)
  have B0 := f19.congr own_fr_zero
  have loop : ∀ (k j : Nat) (T0 : State) (hh : Heap) (locs : List Loc) (i : Int32), j + k = 16 → i.toInt = ((2 * j : Nat) : Int) → Stand p l e ({ frames := 2, cells := 2, slots := 40, locals := 29 } : Room) s m #[(.ref a1), (.int p2)] below meth c T0 locs 1 32 → T0.heap = hh → Fr n0 locs → n0 ≤ hh.size → Keep h12 hh [nsl] → OArr Z hh nsl .long 32 (own_fr j) →
      ∃ (T' : State) (h' : Heap) (L' : List Loc) (i' : Int32), Stand p l e ({ frames := 2, cells := 2, slots := 40, locals := 29 } : Room) s m #[(.ref a1), (.int p2)] below meth c T' L' 1 32 ∧ T'.heap = h' ∧ Fr n0 L' ∧ n0 ≤ h'.size ∧ Keep h12 h' [nsl] ∧ OArr Z h' nsl .long 32 (own_fr 16) ∧ ∀ t, Steps p.tables e below (T'.setTop (mkF m 46 #[.val (.ref a1), .val (.int p2), .val (.int i')] [])) t → Steps p.tables e below (T0.setTop (mkF m 22 #[.val (.ref a1), .val (.int p2), .val (.int i)] [])) t := by
    intro k
    induction k with
    | zero =>
      intro j T0 hh locs i hj hi X0 e0 N0 Z0 KK AA
      obtain rfl : j = 16 := by omega
      have Fs := Fw12.keep KK (ninS ne3 nin0)
      obtain ⟨T21, X21, e21, st21⟩ := getF X0 hx hZ hown (host := "") (Or.inl (hw _ (List.mem_of_getElem? (i := 19) rfl))) Via.refl e0 Fs (g := (mkF m 24 #[.val (.ref a1), .val (.int p2), .val (.int i)] [(.ref a1), (.int i)])) rfl rfl (hb hby dU_24)
      have pre22 : ∀ t_, Steps p.tables e below (T21.setTop (mkF m 46 #[.val (.ref a1), .val (.int p2), .val (.int i)] [])) t_ → Steps p.tables e below (T0.setTop (mkF m 22 #[.val (.ref a1), .val (.int p2), .val (.int i)] [])) t_ := fun t_ k_ => (by
          refine XS.iloadN X0.here hx rfl (hb hby dU_22) rfl ?_
          show Steps p.tables e below (T0.setTop (mkF m 23 #[.val (.ref a1), .val (.int p2), .val (.int i)] [(.int i)])) _
          refine XS.aloadN X0.here hx rfl (hb hby dU_23) rfl rfl ?_
          show Steps p.tables e below (T0.setTop (mkF m 24 #[.val (.ref a1), .val (.int p2), .val (.int i)] [(.ref a1), (.int i)])) _
          refine st21 _ ?_
          show Steps p.tables e below (T21.setTop (mkF m 27 #[.val (.ref a1), .val (.int p2), .val (.int i)] [(.ref nsl), (.int i)])) _
          refine oLen X21 hx hZ e21 AA (N := (32 : Int32)) rfl (g := (mkF m 27 #[.val (.ref a1), .val (.int p2), .val (.int i)] [(.ref nsl), (.int i)])) rfl rfl (hb hby dU_27) _ ?_
          show Steps p.tables e below (T21.setTop (mkF m 28 #[.val (.ref a1), .val (.int p2), .val (.int i)] [(.int (32 : Int32)), (.int i)])) _
          refine XS.icmpYes X21.here hx rfl (pc0 := 28) (pc' := 46) rfl (hb hby dU_28) rfl (flt (own_nlt (b := 32) hi rfl (by decide))).2.1 (by decide) (by decide) ?_
          show Steps p.tables e below (T21.setTop (mkF m 46 #[.val (.ref a1), .val (.int p2), .val (.int i)] [])) _
          exact k_)
      exact ⟨T21, hh, locs, i, X21, e21, N0, Z0, KK, AA, pre22⟩
    | succ k ih =>
      intro j T0 hh locs i hj hi X0 e0 N0 Z0 KK AA
      have Fs := Fw12.keep KK (ninS ne3 nin0)
      obtain ⟨T23, X23, e23, st23⟩ := getF X0 hx hZ hown (host := "") (Or.inl (hw _ (List.mem_of_getElem? (i := 19) rfl))) Via.refl e0 Fs (g := (mkF m 24 #[.val (.ref a1), .val (.int p2), .val (.int i)] [(.ref a1), (.int i)])) rfl rfl (hb hby dU_24)
      obtain ⟨T24, X24, e24, st24⟩ := getF X23 hx hZ hown (host := "") (Or.inl (hw _ (List.mem_of_getElem? (i := 19) rfl))) Via.refl e23 Fs (g := (mkF m 32 #[.val (.ref a1), .val (.int p2), .val (.int i)] [(.ref a1)])) rfl rfl (hb hby dU_32)
      obtain ⟨T25, h25, X25, e25, W25, A25, st25⟩ := oStJ X24 hx hZ e24 AA (k := (2 * j)) hi (by omega) (g := (mkF m 39 #[.val (.ref a1), .val (.int p2), .val (.int i)] [(.long (-9223372036854775808 : Int64)), (.int i), (.ref nsl)])) rfl rfl (hb hby dU_39)
      have f26 := Fs.other W25 (Or.inl ne3)
      have N25 := Fr.snoc X25 N0 gg2
      have Z25 : n0 ≤ h25.size := Nat.le_trans Z0 (Keep.of_wr W25).1
      have pre27 : ∀ t_, Steps p.tables e below (T25.setTop (mkF m 22 #[.val (.ref a1), .val (.int p2), .val (.int (i + (2 : Int32)))] [])) t_ → Steps p.tables e below (T0.setTop (mkF m 22 #[.val (.ref a1), .val (.int p2), .val (.int i)] [])) t_ := fun t_ k_ => (by
          refine XS.iloadN X0.here hx rfl (hb hby dU_22) rfl ?_
          show Steps p.tables e below (T0.setTop (mkF m 23 #[.val (.ref a1), .val (.int p2), .val (.int i)] [(.int i)])) _
          refine XS.aloadN X0.here hx rfl (hb hby dU_23) rfl rfl ?_
          show Steps p.tables e below (T0.setTop (mkF m 24 #[.val (.ref a1), .val (.int p2), .val (.int i)] [(.ref a1), (.int i)])) _
          refine st23 _ ?_
          show Steps p.tables e below (T23.setTop (mkF m 27 #[.val (.ref a1), .val (.int p2), .val (.int i)] [(.ref nsl), (.int i)])) _
          refine oLen X23 hx hZ e23 AA (N := (32 : Int32)) rfl (g := (mkF m 27 #[.val (.ref a1), .val (.int p2), .val (.int i)] [(.ref nsl), (.int i)])) rfl rfl (hb hby dU_27) _ ?_
          show Steps p.tables e below (T23.setTop (mkF m 28 #[.val (.ref a1), .val (.int p2), .val (.int i)] [(.int (32 : Int32)), (.int i)])) _
          refine XS.icmpNo X23.here hx rfl (hb hby dU_28) rfl (tlt (own_lt (b := 32) hi rfl (by omega))).2.1 ?_
          show Steps p.tables e below (T23.setTop (mkF m 31 #[.val (.ref a1), .val (.int p2), .val (.int i)] [])) _
          refine XS.aloadN X23.here hx rfl (hb hby dU_31) rfl rfl ?_
          show Steps p.tables e below (T23.setTop (mkF m 32 #[.val (.ref a1), .val (.int p2), .val (.int i)] [(.ref a1)])) _
          refine st24 _ ?_
          show Steps p.tables e below (T24.setTop (mkF m 35 #[.val (.ref a1), .val (.int p2), .val (.int i)] [(.ref nsl)])) _
          refine XS.iloadN X24.here hx rfl (hb hby dU_35) rfl ?_
          show Steps p.tables e below (T24.setTop (mkF m 36 #[.val (.ref a1), .val (.int p2), .val (.int i)] [(.int i), (.ref nsl)])) _
          refine X24.ldc2Long hx hown (mvT hZ (hw _ (List.mem_of_getElem? (i := 27) rfl))) (g := (mkF m 36 #[.val (.ref a1), .val (.int p2), .val (.int i)] [(.int i), (.ref nsl)])) rfl (hb hby dU_36) _ ?_
          show Steps p.tables e below (T24.setTop (mkF m 39 #[.val (.ref a1), .val (.int p2), .val (.int i)] [(.long (-9223372036854775808 : Int64)), (.int i), (.ref nsl)])) _
          refine st25 _ ?_
          show Steps p.tables e below (T25.setTop (mkF m 40 #[.val (.ref a1), .val (.int p2), .val (.int i)] [])) _
          refine XS.iinc X25.here hx rfl (hb hby dU_40) rfl (l' := #[.val (.ref a1), .val (.int p2), .val (.int (i + (2 : Int32)))]) rfl ?_
          show Steps p.tables e below (T25.setTop (mkF m 43 #[.val (.ref a1), .val (.int p2), .val (.int (i + (2 : Int32)))] [])) _
          refine XS.goto X25.here hx rfl (pc0 := 43) (pc' := 22) rfl (hb hby dU_43) (by decide) (by decide) ?_
          show Steps p.tables e below (T25.setTop (mkF m 22 #[.val (.ref a1), .val (.int p2), .val (.int (i + (2 : Int32)))] [])) _
          exact k_)
      obtain ⟨T', h', L', i', X', e', N', Z', K', A', st'⟩ := ih (j + 1) T25 h25 _ (i + (2 : Int32)) (by omega) (by rw [own_addc (c := 2) rfl hi (by omega) (by decide)]; omega) X25 e25 N25 Z25 (KK.wr W25 (Or.inl (List.mem_of_getElem? (i := 0) rfl))) (A25.congr (own_fr_step j))
      exact ⟨T', h', L', i', X', e', N', Z', K', A', fun t k => pre27 t (st' t k)⟩
  obtain ⟨T', h', L', i', X', e', N', Z', K', A', st'⟩ := loop 16 0 T12 h12 _ (0 : Int32) (by decide) rfl X12 e12 N12 Z12 (Keep.refl _ _) B0
  have K28 := K'
  have f29 := f13.keep K28
  have f30 := Fw12.keep K28 (ninS ne3 nin0)
  have f31 := f14.keep K28 (ninS ne3 nin0)
  have f32 := f15.keep K28 (ninS ne3 nin0)
  have f33 := f16.keep K28 (ninS ne3 nin0)
  have f34 := f17.keep K28 (ninS ne3 nin0)
  have KL := K12.trans K' (allS (Or.inr sz2) all0)
  have preL : ∀ t, Steps p.tables e below (T'.setTop (mkF m 46 #[.val (.ref a1), .val (.int p2), .val (.int i')] [])) t → Steps p.tables e below (s₁.setTop (entryFrame m #[(.ref a1), (.int p2)] 3)) t := fun t k => pre20 t (st' t k)
  obtain ⟨T35, h35, X35, e35, E35, A35, st35⟩ := oNew X' hx hZ (hw _ (List.mem_of_getElem? (i := 28) rfl)) e' (g := (mkF m 50 #[.val (.ref a1), .val (.int p2), .val (.int i')] [(.int (p2 / (2 : Int32))), (.ref a1)])) rfl (hb hby dU_50) rfl (k := 8) (cap := 8) (by rw [hp]; decide) (by decide) (by decide) (by decide) (by decide)
  obtain ⟨nus, g35⟩ : ∃ z, z = h'.size := ⟨_, rfl⟩
  rw [← g35] at A35 st35
  have ne36 : a1 ≠ nus := Nat.ne_of_lt (Nat.lt_of_lt_of_le f29.lt (Nat.le_of_eq g35.symm))
  have ne37 : nsl ≠ nus := Nat.ne_of_lt (Nat.lt_of_lt_of_le A'.lt (Nat.le_of_eq g35.symm))
  have gg35 : n0 ≤ nus := Nat.le_trans Z' (Nat.le_of_eq g35.symm)
  have sz35 : h0.size ≤ nus := Nat.le_trans KL.1 (Nat.le_of_eq g35.symm)
  have f38 := f29.ext E35
  have f39 := f30.ext E35
  have f40 := f31.ext E35
  have f41 := f32.ext E35
  have f42 := f33.ext E35
  have f43 := f34.ext E35
  have f44 := A'.ext E35
  have Z35 : n0 ≤ h35.size := Nat.le_trans Z' E35.1
  have K35 := KL.ext E35
  have B35 : OArr Z h35 nus .int 8 (fun _ => .int (0 : Int32)) := A35
  obtain ⟨T45, h45, X45, e45, W45, st45⟩ := putF X35 hx hZ hown (host := "") (Or.inl (hw _ (List.mem_of_getElem? (i := 29) rfl))) Via.refl e35 f40 f38 (Or.inl (hw _ (List.mem_of_getElem? (i := 30) rfl))) (hw _ (List.mem_of_getElem? (i := 12) rfl)) (ty := (.array .int)) (by decide) rfl rfl (g := (mkF m 52 #[.val (.ref a1), .val (.int p2), .val (.int i')] [(.ref nus), (.ref a1)])) rfl rfl (hb hby dU_52)
  have Fw45 := f40.same W45
  have f46 := f38.wr W45
  have f47 := f39.other W45 (Or.inr (slot_ne (Or.inl (hw _ (List.mem_of_getElem? (i := 20) rfl))) (Or.inl (hw _ (List.mem_of_getElem? (i := 30) rfl))) (by decide) (t := (.array .long)) (t' := (.array .int)) (by decide) (by decide)))
  have f48 := f41.other W45 (Or.inr (slot_ne (Or.inl (hw _ (List.mem_of_getElem? (i := 32) rfl))) (Or.inl (hw _ (List.mem_of_getElem? (i := 30) rfl))) (by decide) (t := .int) (t' := (.array .int)) (by decide) (by decide)))
  have f49 := f42.other W45 (Or.inr (slot_ne (Or.inl (hw _ (List.mem_of_getElem? (i := 34) rfl))) (Or.inl (hw _ (List.mem_of_getElem? (i := 30) rfl))) (by decide) (t := .int) (t' := (.array .int)) (by decide) (by decide)))
  have f50 := f43.other W45 (Or.inr (slot_ne (Or.inl (hw _ (List.mem_of_getElem? (i := 45) rfl))) (Or.inl (hw _ (List.mem_of_getElem? (i := 30) rfl))) (by decide) (t := .int) (t' := (.array .int)) (by decide) (by decide)))
  have f51 := f44.other W45 (Ne.symm ne3)
  have f52 := B35.other W45 (Ne.symm ne36)
  have N45 := Fr.snoc X45 N' g1
  have K45 := K35.wr W45 (Or.inl (List.mem_of_getElem? (i := 0) rfl))
  have Z45 : n0 ≤ h45.size := Nat.le_trans Z35 (Keep.of_wr W45).1
  obtain ⟨T53, h53, X53, e53, W53, st53⟩ := putF X45 hx hZ hown (host := "") (Or.inl (hw _ (List.mem_of_getElem? (i := 31) rfl))) Via.refl e45 f48 f46 (Or.inl (hw _ (List.mem_of_getElem? (i := 32) rfl))) (hw _ (List.mem_of_getElem? (i := 12) rfl)) (ty := .int) (by decide) rfl rfl (g := (mkF m 57 #[.val (.ref a1), .val (.int p2), .val (.int i')] [(.int (0 : Int32)), (.ref a1)])) rfl rfl (hb hby dU_57)
  have Fw53 := f48.same W53
  have f54 := f46.wr W53
  have f55 := f47.other W53 (Or.inr (slot_ne (Or.inl (hw _ (List.mem_of_getElem? (i := 20) rfl))) (Or.inl (hw _ (List.mem_of_getElem? (i := 32) rfl))) (by decide) (t := (.array .long)) (t' := .int) (by decide) (by decide)))
  have f56 := Fw45.other W53 (Or.inr (slot_ne (Or.inl (hw _ (List.mem_of_getElem? (i := 30) rfl))) (Or.inl (hw _ (List.mem_of_getElem? (i := 32) rfl))) (by decide) (t := (.array .int)) (t' := .int) (by decide) (by decide)))
  have f57 := f49.other W53 (Or.inr (slot_ne (Or.inl (hw _ (List.mem_of_getElem? (i := 34) rfl))) (Or.inl (hw _ (List.mem_of_getElem? (i := 32) rfl))) (by decide) (t := .int) (t' := .int) (by decide) (by decide)))
  have f58 := f50.other W53 (Or.inr (slot_ne (Or.inl (hw _ (List.mem_of_getElem? (i := 45) rfl))) (Or.inl (hw _ (List.mem_of_getElem? (i := 32) rfl))) (by decide) (t := .int) (t' := .int) (by decide) (by decide)))
  have f59 := f51.other W53 (Ne.symm ne3)
  have f60 := f52.other W53 (Ne.symm ne36)
  have N53 := Fr.snoc X53 N45 g1
  have K53 := K45.wr W53 (Or.inl (List.mem_of_getElem? (i := 0) rfl))
  have Z53 : n0 ≤ h53.size := Nat.le_trans Z45 (Keep.of_wr W53).1
  obtain ⟨T61, h61, X61, e61, W61, st61⟩ := putF X53 hx hZ hown (host := "") (Or.inl (hw _ (List.mem_of_getElem? (i := 33) rfl))) Via.refl e53 f57 f54 (Or.inl (hw _ (List.mem_of_getElem? (i := 34) rfl))) (hw _ (List.mem_of_getElem? (i := 12) rfl)) (ty := .int) (by decide) rfl rfl (g := (mkF m 62 #[.val (.ref a1), .val (.int p2), .val (.int i')] [(.int p2), (.ref a1)])) rfl rfl (hb hby dU_62)
  have Fw61 := f57.same W61
  have f62 := f54.wr W61
  have f63 := f55.other W61 (Or.inr (slot_ne (Or.inl (hw _ (List.mem_of_getElem? (i := 20) rfl))) (Or.inl (hw _ (List.mem_of_getElem? (i := 34) rfl))) (by decide) (t := (.array .long)) (t' := .int) (by decide) (by decide)))
  have f64 := f56.other W61 (Or.inr (slot_ne (Or.inl (hw _ (List.mem_of_getElem? (i := 30) rfl))) (Or.inl (hw _ (List.mem_of_getElem? (i := 34) rfl))) (by decide) (t := (.array .int)) (t' := .int) (by decide) (by decide)))
  have f65 := Fw53.other W61 (Or.inr (slot_ne (Or.inl (hw _ (List.mem_of_getElem? (i := 32) rfl))) (Or.inl (hw _ (List.mem_of_getElem? (i := 34) rfl))) (by decide) (t := .int) (t' := .int) (by decide) (by decide)))
  have f66 := f58.other W61 (Or.inr (slot_ne (Or.inl (hw _ (List.mem_of_getElem? (i := 45) rfl))) (Or.inl (hw _ (List.mem_of_getElem? (i := 34) rfl))) (by decide) (t := .int) (t' := .int) (by decide) (by decide)))
  have f67 := f59.other W61 (Ne.symm ne3)
  have f68 := f60.other W61 (Ne.symm ne36)
  have N61 := Fr.snoc X61 N53 g1
  have K61 := K53.wr W61 (Or.inl (List.mem_of_getElem? (i := 0) rfl))
  have Z61 : n0 ≤ h61.size := Nat.le_trans Z53 (Keep.of_wr W61).1
  obtain ⟨_, _, ⟨T69, L69, k69, n69⟩, -, X69, ⟨Lc69, hQ69, l69, y69, z69⟩, st69⟩ := Jvm.LawKit.callS X61 hx (y := (⟨"java/lang/Long", "numberOfLeadingZeros", "(J)I"⟩ : MethodName)) hown (mvT hZ (hw _ (List.mem_of_getElem? (i := 35) rfl))) (mvT hZ (hw _ (List.mem_of_getElem? (i := 36) rfl))) (mvT hZ (hw _ (List.mem_of_getElem? (i := 37) rfl))) (mvT hZ (hw _ (List.mem_of_getElem? (i := 38) rfl))) (by decide) (backOf (W := 1) (rmN2 l Z a0 hw [] (((p2.toInt64) - (1 : Int64)))  h61 n0 Z61 (by rw [hp]; decide)) hZ (hw _ (List.mem_of_getElem? (i := 38) rfl)) (hw _ (List.mem_of_getElem? (i := 37) rfl)) (by decide) (by decide)) (g := (mkF m 70 #[.val (.ref a1), .val (.int p2), .val (.int i')] [(.long ((p2.toInt64) - (1 : Int64))), (.ref a1)])) rfl (by rw [hml]; rfl) (argsL := [(.long ((p2.toInt64) - (1 : Int64)))]) (rest := [(.ref a1)]) (lenOf pdU_0 rfl) rfl (by show 2 * 0 + _ ≤ _; exact Nat.le_of_eq rfl) (hb hby dU_70) (fun _ _ => ⟨rfl, e61, (by decide : 2 + 0 ≤ _), (by decide : 40 + 0 ≤ _)⟩)
  dsimp only [Pt.U, Pt.locs, Pt.cells, Pt.slots] at X69 l69 y69 z69 st69 hQ69
  subst l69 y69 z69
  obtain ⟨rfl, N69q, e69⟩ := hQ69
  have N69 := Fr.app N61 N69q
  obtain ⟨T70, h70, X70, e70, W70, st70⟩ := putF X69 hx hZ hown (host := "") (Or.inl (hw _ (List.mem_of_getElem? (i := 44) rfl))) Via.refl e69 f66 f62 (Or.inl (hw _ (List.mem_of_getElem? (i := 45) rfl))) (hw _ (List.mem_of_getElem? (i := 12) rfl)) (ty := .int) (by decide) rfl rfl (g := (mkF m 73 #[.val (.ref a1), .val (.int p2), .val (.int i')] [(.int (60 : Int32)), (.ref a1)])) rfl rfl (hb hby dU_73)
  have Fw70 := f66.same W70
  have f71 := f62.wr W70
  have f72 := f63.other W70 (Or.inr (slot_ne (Or.inl (hw _ (List.mem_of_getElem? (i := 20) rfl))) (Or.inl (hw _ (List.mem_of_getElem? (i := 45) rfl))) (by decide) (t := (.array .long)) (t' := .int) (by decide) (by decide)))
  have f73 := f64.other W70 (Or.inr (slot_ne (Or.inl (hw _ (List.mem_of_getElem? (i := 30) rfl))) (Or.inl (hw _ (List.mem_of_getElem? (i := 45) rfl))) (by decide) (t := (.array .int)) (t' := .int) (by decide) (by decide)))
  have f74 := f65.other W70 (Or.inr (slot_ne (Or.inl (hw _ (List.mem_of_getElem? (i := 32) rfl))) (Or.inl (hw _ (List.mem_of_getElem? (i := 45) rfl))) (by decide) (t := .int) (t' := .int) (by decide) (by decide)))
  have f75 := Fw61.other W70 (Or.inr (slot_ne (Or.inl (hw _ (List.mem_of_getElem? (i := 34) rfl))) (Or.inl (hw _ (List.mem_of_getElem? (i := 45) rfl))) (by decide) (t := .int) (t' := .int) (by decide) (by decide)))
  have f76 := f67.other W70 (Ne.symm ne3)
  have f77 := f68.other W70 (Ne.symm ne36)
  have N70 := Fr.snoc X70 N69 g1
  have K70 := K61.wr W70 (Or.inl (List.mem_of_getElem? (i := 0) rfl))
  have Z70 : n0 ≤ h70.size := Nat.le_trans Z61 (Keep.of_wr W70).1
  have pre78 : ∀ t_, Steps p.tables e below (T70.setTop (mkF m 76 #[.val (.ref a1), .val (.int p2), .val (.int i')] [])) t_ → Steps p.tables e below (s₁.setTop (entryFrame m #[(.ref a1), (.int p2)] 3)) t_ := fun t_ k_ => preL t_ (by
      refine XS.aloadN X'.here hx rfl (hb hby dU_46) rfl rfl ?_
      show Steps p.tables e below (T'.setTop (mkF m 47 #[.val (.ref a1), .val (.int p2), .val (.int i')] [(.ref a1)])) _
      refine XS.iloadN X'.here hx rfl (hb hby dU_47) rfl ?_
      show Steps p.tables e below (T'.setTop (mkF m 48 #[.val (.ref a1), .val (.int p2), .val (.int i')] [(.int p2), (.ref a1)])) _
      refine XS.iconst X'.here hx rfl (hb hby dU_48) ?_
      show Steps p.tables e below (T'.setTop (mkF m 49 #[.val (.ref a1), .val (.int p2), .val (.int i')] [(.int (2 : Int32)), (.int p2), (.ref a1)])) _
      refine XS.idiv X'.here hx rfl (hb hby dU_49) rfl (by decide) ?_
      show Steps p.tables e below (T'.setTop (mkF m 50 #[.val (.ref a1), .val (.int p2), .val (.int i')] [(.int (p2 / (2 : Int32))), (.ref a1)])) _
      refine st35 _ ?_
      show Steps p.tables e below (T35.setTop (mkF m 52 #[.val (.ref a1), .val (.int p2), .val (.int i')] [(.ref nus), (.ref a1)])) _
      refine st45 _ ?_
      show Steps p.tables e below (T45.setTop (mkF m 55 #[.val (.ref a1), .val (.int p2), .val (.int i')] [])) _
      refine XS.aloadN X45.here hx rfl (hb hby dU_55) rfl rfl ?_
      show Steps p.tables e below (T45.setTop (mkF m 56 #[.val (.ref a1), .val (.int p2), .val (.int i')] [(.ref a1)])) _
      refine XS.iconst X45.here hx rfl (hb hby dU_56) ?_
      show Steps p.tables e below (T45.setTop (mkF m 57 #[.val (.ref a1), .val (.int p2), .val (.int i')] [(.int (0 : Int32)), (.ref a1)])) _
      refine st53 _ ?_
      show Steps p.tables e below (T53.setTop (mkF m 60 #[.val (.ref a1), .val (.int p2), .val (.int i')] [])) _
      refine XS.aloadN X53.here hx rfl (hb hby dU_60) rfl rfl ?_
      show Steps p.tables e below (T53.setTop (mkF m 61 #[.val (.ref a1), .val (.int p2), .val (.int i')] [(.ref a1)])) _
      refine XS.iloadN X53.here hx rfl (hb hby dU_61) rfl ?_
      show Steps p.tables e below (T53.setTop (mkF m 62 #[.val (.ref a1), .val (.int p2), .val (.int i')] [(.int p2), (.ref a1)])) _
      refine st61 _ ?_
      show Steps p.tables e below (T61.setTop (mkF m 65 #[.val (.ref a1), .val (.int p2), .val (.int i')] [])) _
      refine XS.aloadN X61.here hx rfl (hb hby dU_65) rfl rfl ?_
      show Steps p.tables e below (T61.setTop (mkF m 66 #[.val (.ref a1), .val (.int p2), .val (.int i')] [(.ref a1)])) _
      refine XS.iloadN X61.here hx rfl (hb hby dU_66) rfl ?_
      show Steps p.tables e below (T61.setTop (mkF m 67 #[.val (.ref a1), .val (.int p2), .val (.int i')] [(.int p2), (.ref a1)])) _
      refine XS.i2l X61.here hx rfl (hb hby dU_67) rfl ?_
      show Steps p.tables e below (T61.setTop (mkF m 68 #[.val (.ref a1), .val (.int p2), .val (.int i')] [(.long (p2.toInt64)), (.ref a1)])) _
      refine XS.lconst X61.here hx rfl (hb hby dU_68) ?_
      show Steps p.tables e below (T61.setTop (mkF m 69 #[.val (.ref a1), .val (.int p2), .val (.int i')] [(.long (1 : Int64)), (.long (p2.toInt64)), (.ref a1)])) _
      refine XS.lsub X61.here hx rfl (hb hby dU_69) rfl ?_
      show Steps p.tables e below (T61.setTop (mkF m 70 #[.val (.ref a1), .val (.int p2), .val (.int i')] [(.long ((p2.toInt64) - (1 : Int64))), (.ref a1)])) _
      refine st69 _ ?_
      show Steps p.tables e below (T69.setTop (mkF m 73 #[.val (.ref a1), .val (.int p2), .val (.int i')] [(.int (60 : Int32)), (.ref a1)])) _
      refine st70 _ ?_
      show Steps p.tables e below (T70.setTop (mkF m 76 #[.val (.ref a1), .val (.int p2), .val (.int i')] [])) _
      exact k_)
  have Fn : Fld Z h70 a1 "com/example/headwater/headwater/headdriven/LongMap" "m_nSlots" "I" (.int (16 : Int32)) := by have q := f75; rw [hp] at q; exact q
  obtain ⟨fs, hr, hrun, hended, hW, hsame⟩ := X70.leave (v := none) (fun _ => rfl)
  refine ⟨_, _, pre78 _ ?_, hrun, hended, _, _, rfl, ?_, ⟨_, rfl⟩, hW, hsame.mono (by decide) (by decide)⟩
  · exact X70.returnOut hx Bd.returns (hb hby dU_76) hr
  · show QU Z a1 p2 sl0 f0 h0 n0 _ T70.heap _
    rw [e70]
    exact ⟨rfl, N70, K70, nsl, nus, gg2, gg35, sz2, sz35, ne37, ⟨f71, f72, f73, f74, Fn, Fw70, ⟨_, _, f76.congr own_fr_end, own_MP.start⟩, _, f77⟩⟩
theorem dG_0 : decode prog_51_method_1_code 0 = .ok (.aload_n 0, 1) := by decide +kernel
theorem dG_1 : decode prog_51_method_1_code 1 = .ok (.invokespecial 3, 3) := by decide +kernel
theorem dG_4 : decode prog_51_method_1_code 4 = .ok (.aload_n 0, 1) := by decide +kernel
theorem dG_5 : decode prog_51_method_1_code 5 = .ok (.iconst 0, 1) := by decide +kernel
theorem dG_6 : decode prog_51_method_1_code 6 = .ok (.newarray .long, 2) := by decide +kernel
theorem dG_8 : decode prog_51_method_1_code 8 = .ok (.putfield 9, 3) := by decide +kernel
theorem dG_11 : decode prog_51_method_1_code 11 = .ok (.aload_n 0, 1) := by decide +kernel
theorem dG_12 : decode prog_51_method_1_code 12 = .ok (.iconst 0, 1) := by decide +kernel
theorem dG_13 : decode prog_51_method_1_code 13 = .ok (.newarray .long, 2) := by decide +kernel
theorem dG_15 : decode prog_51_method_1_code 15 = .ok (.putfield 15, 3) := by decide +kernel
theorem dG_18 : decode prog_51_method_1_code 18 = .ok (.aload_n 0, 1) := by decide +kernel
theorem dG_19 : decode prog_51_method_1_code 19 = .ok (.bipush 16, 2) := by decide +kernel
theorem dG_21 : decode prog_51_method_1_code 21 = .ok (.invokevirtual 18, 3) := by decide +kernel
theorem dG_24 : decode prog_51_method_1_code 24 = .ok (.return_, 1) := by decide +kernel
theorem pdG_0 : parseMethodDescriptor "(I)V" = some ⟨[.int], none⟩ := by decide +kernel
theorem pnG : plainName "com/example/headwater/headwater/headdriven/LongMap" = true := by first | (simp [plainName, overriddenIn]; done) | decide +kernel
theorem efG (m : MethodId) (a1 : Addr) : entryFrame m #[(.ref a1)] 1 = mkF m 0 #[.val (.ref a1)] [] := by first | (simp [entryFrame, mkF, argsToLocals, Value.category]; done) | rfl
def QG (Z : State) (a1 : Addr) (h0 : Heap) (n0 : Nat) (v : Option Value) (h : Heap) (L : List Loc) : Prop := v = none ∧ Fr n0 L ∧ Keep h0 h [a1] ∧ ∃ sl us : Addr, n0 ≤ sl ∧ n0 ≤ us ∧ h0.size ≤ sl ∧ h0.size ≤ us ∧ sl ≠ us ∧ own_LM Z h a1 sl us (fun _ => none) 0
set_option maxRecDepth 65536 in
set_option maxHeartbeats 40000000 in
theorem rmG (l : Launch) (Z : State) (a0 : Array Value) (hw : ∀ d ∈ tables_1, d.before a0 Z = true) (ws : List Jvm.Cond) (a1 : Addr) (h0 : Heap) (n0 : Nat) (Z0 : n0 ≤ h0.size) (E1 : Exa Z h0 a1 "com/example/headwater/headwater/headdriven/LongMap") (F1 : Fld Z h0 a1 "com/example/headwater/headwater/headdriven/LongMap" "m_aSlots" "[J" .null) (F2 : Fld Z h0 a1 "com/example/headwater/headwater/headdriven/LongMap" "m_aMoving" "[J" .null) (F3 : Fld Z h0 a1 "com/example/headwater/headwater/headdriven/LongMap" "m_aUsed" "[I" .null) (F4 : Fld Z h0 a1 "com/example/headwater/headwater/headdriven/LongMap" "m_nSize" "I" (.int (0 : Int32))) (F5 : Fld Z h0 a1 "com/example/headwater/headwater/headdriven/LongMap" "m_nSlots" "I" (.int (0 : Int32))) (F6 : Fld Z h0 a1 "com/example/headwater/headwater/headdriven/LongMap" "m_nShift" "I" (.int (0 : Int32))) (g1 : n0 ≤ a1) :
    MetFree l (⟨"com/example/headwater/headwater/headdriven/LongMap", "<init>", "()V"⟩ : MethodName) (head1 (Jvm.Cond.code (⟨"com/example/headwater/headwater/headdriven/LongMap", "<init>", "()V"⟩ : MethodName) prog_51_method_1_code 1 none :: ws) ({ frames := 3, cells := 4, slots := 40, locals := 43 } : Room)) (fun a U => a = #[(.ref a1)] ∧ Z.Warmed39 U.vm ∧ U.heap = h0) (fun _ _ _ _ _ => True) (fun _ U o U' => ∃ v L, o = .returned v ∧ QG Z a1 h0 n0 v U'.heap L ∧ FrameEnd U o U' L ({ frames := 3, cells := 4, slots := 40, locals := 43 } : Room).cells ({ frames := 3, cells := 4, slots := 40, locals := 43 } : Room).slots) := by
  refine MetFree.of_bodySF (plainFor_of_name pnG) hisR ?_
  intro p e s m args below meth c s₁ Bd hml0 hP hK
  obtain ⟨rfl, hZ, hh⟩ := hP
  have hx := Bd.exec
  have hby := Bd.bytes
  have hml : c.maxLocals = 1 := hml0
  have hown : s.vm.findClass "com/example/headwater/headwater/headdriven/LongMap" = some m.cls := findClass_of_methodNamed Bd.named
  have hnm := (name_of_methodNamed Bd.named Bd.method).1
  have X0 : Stand p l e ({ frames := 3, cells := 4, slots := 40, locals := 43 } : Room) s m #[(.ref a1)] below meth c s₁ [] 0 0 := Stand.of_body Bd
  have e0 : s₁.heap = h0 := by rw [← hh, Bd.state]; rfl
  have N0 := Fr.nil n0
  have pre0 : ∀ t, Steps p.tables e below (s₁.setTop (mkF m 0 #[.val (.ref a1)] [])) t → Steps p.tables e below (s₁.setTop (entryFrame m #[(.ref a1)] 1)) t := fun t k => castTop (efG m a1) k
  obtain ⟨T1, X1, e1, st1⟩ := initO X0 hx hZ hown (hw _ (List.mem_of_getElem? (i := 17) rfl)) (hw _ (List.mem_of_getElem? (i := 9) rfl)) (hw _ (List.mem_of_getElem? (i := 10) rfl)) e0 (g := (mkF m 1 #[.val (.ref a1)] [(.ref a1)])) rfl (by rw [hml]; rfl) rfl (hb hby dG_1) (by decide) (W := 0) (by show 2 * 0 + _ ≤ _; exact Nat.le_of_eq rfl) (by decide)
  obtain ⟨T2, h2, X2, e2, E2, A2, st2⟩ := oNew X1 hx hZ (hw _ (List.mem_of_getElem? (i := 18) rfl)) e1 (g := (mkF m 6 #[.val (.ref a1)] [(.int (0 : Int32)), (.ref a1)])) rfl (hb hby dG_6) rfl (k := 0) (cap := 0) rfl (by decide) (by decide) (by decide) (by decide)
  obtain ⟨s0, g2⟩ : ∃ z, z = h0.size := ⟨_, rfl⟩
  rw [← g2] at A2 st2
  have ne3 : a1 ≠ s0 := Nat.ne_of_lt (Nat.lt_of_lt_of_le E1.lt (Nat.le_of_eq g2.symm))
  have gg2 : n0 ≤ s0 := Nat.le_trans Z0 (Nat.le_of_eq g2.symm)
  have sz2 : h0.size ≤ s0 := Nat.le_trans (Keep.refl h0 [a1]).1 (Nat.le_of_eq g2.symm)
  have f4 := E1.ext E2
  have f5 := F1.ext E2
  have f6 := F2.ext E2
  have f7 := F3.ext E2
  have f8 := F4.ext E2
  have f9 := F5.ext E2
  have f10 := F6.ext E2
  have Z2 : n0 ≤ h2.size := Nat.le_trans Z0 E2.1
  have K2 := (Keep.refl h0 [a1]).ext E2
  have B2 : OArr Z h2 s0 .long 0 (fun _ => .long (0 : Int64)) := A2
  obtain ⟨T11, h11, X11, e11, W11, st11⟩ := putF X2 hx hZ hown (host := "") (Or.inl (hw _ (List.mem_of_getElem? (i := 19) rfl))) Via.refl e2 f5 f4 (Or.inl (hw _ (List.mem_of_getElem? (i := 20) rfl))) (hw _ (List.mem_of_getElem? (i := 12) rfl)) (ty := (.array .long)) (by decide) rfl rfl (g := (mkF m 8 #[.val (.ref a1)] [(.ref s0), (.ref a1)])) rfl rfl (hb hby dG_8)
  have Fw11 := f5.same W11
  have f12 := f4.wr W11
  have f13 := f6.other W11 (Or.inr (slot_ne (Or.inl (hw _ (List.mem_of_getElem? (i := 22) rfl))) (Or.inl (hw _ (List.mem_of_getElem? (i := 20) rfl))) (by decide) (t := (.array .long)) (t' := (.array .long)) (by decide) (by decide)))
  have f14 := f7.other W11 (Or.inr (slot_ne (Or.inl (hw _ (List.mem_of_getElem? (i := 30) rfl))) (Or.inl (hw _ (List.mem_of_getElem? (i := 20) rfl))) (by decide) (t := (.array .int)) (t' := (.array .long)) (by decide) (by decide)))
  have f15 := f8.other W11 (Or.inr (slot_ne (Or.inl (hw _ (List.mem_of_getElem? (i := 32) rfl))) (Or.inl (hw _ (List.mem_of_getElem? (i := 20) rfl))) (by decide) (t := .int) (t' := (.array .long)) (by decide) (by decide)))
  have f16 := f9.other W11 (Or.inr (slot_ne (Or.inl (hw _ (List.mem_of_getElem? (i := 34) rfl))) (Or.inl (hw _ (List.mem_of_getElem? (i := 20) rfl))) (by decide) (t := .int) (t' := (.array .long)) (by decide) (by decide)))
  have f17 := f10.other W11 (Or.inr (slot_ne (Or.inl (hw _ (List.mem_of_getElem? (i := 45) rfl))) (Or.inl (hw _ (List.mem_of_getElem? (i := 20) rfl))) (by decide) (t := .int) (t' := (.array .long)) (by decide) (by decide)))
  have f18 := B2.other W11 (Ne.symm ne3)
  have N11 := Fr.snoc X11 N0 g1
  have K11 := K2.wr W11 (Or.inl (List.mem_of_getElem? (i := 0) rfl))
  have Z11 : n0 ≤ h11.size := Nat.le_trans Z2 (Keep.of_wr W11).1
  obtain ⟨T19, h19, X19, e19, E19, A19, st19⟩ := oNew X11 hx hZ (hw _ (List.mem_of_getElem? (i := 18) rfl)) e11 (g := (mkF m 13 #[.val (.ref a1)] [(.int (0 : Int32)), (.ref a1)])) rfl (hb hby dG_13) rfl (k := 0) (cap := 0) rfl (by decide) (by decide) (by decide) (by decide)
  obtain ⟨s1, g19⟩ : ∃ z, z = h11.size := ⟨_, rfl⟩
  rw [← g19] at A19 st19
  have ne20 : a1 ≠ s1 := Nat.ne_of_lt (Nat.lt_of_lt_of_le f12.lt (Nat.le_of_eq g19.symm))
  have ne21 : s0 ≠ s1 := Nat.ne_of_lt (Nat.lt_of_lt_of_le f18.lt (Nat.le_of_eq g19.symm))
  have gg19 : n0 ≤ s1 := Nat.le_trans Z11 (Nat.le_of_eq g19.symm)
  have sz19 : h0.size ≤ s1 := Nat.le_trans K11.1 (Nat.le_of_eq g19.symm)
  have f22 := f12.ext E19
  have f23 := Fw11.ext E19
  have f24 := f13.ext E19
  have f25 := f14.ext E19
  have f26 := f15.ext E19
  have f27 := f16.ext E19
  have f28 := f17.ext E19
  have f29 := f18.ext E19
  have Z19 : n0 ≤ h19.size := Nat.le_trans Z11 E19.1
  have K19 := K11.ext E19
  have B19 : OArr Z h19 s1 .long 0 (fun _ => .long (0 : Int64)) := A19
  obtain ⟨T30, h30, X30, e30, W30, st30⟩ := putF X19 hx hZ hown (host := "") (Or.inl (hw _ (List.mem_of_getElem? (i := 21) rfl))) Via.refl e19 f24 f22 (Or.inl (hw _ (List.mem_of_getElem? (i := 22) rfl))) (hw _ (List.mem_of_getElem? (i := 12) rfl)) (ty := (.array .long)) (by decide) rfl rfl (g := (mkF m 15 #[.val (.ref a1)] [(.ref s1), (.ref a1)])) rfl rfl (hb hby dG_15)
  have Fw30 := f24.same W30
  have f31 := f22.wr W30
  have f32 := f23.other W30 (Or.inr (slot_ne (Or.inl (hw _ (List.mem_of_getElem? (i := 20) rfl))) (Or.inl (hw _ (List.mem_of_getElem? (i := 22) rfl))) (by decide) (t := (.array .long)) (t' := (.array .long)) (by decide) (by decide)))
  have f33 := f25.other W30 (Or.inr (slot_ne (Or.inl (hw _ (List.mem_of_getElem? (i := 30) rfl))) (Or.inl (hw _ (List.mem_of_getElem? (i := 22) rfl))) (by decide) (t := (.array .int)) (t' := (.array .long)) (by decide) (by decide)))
  have f34 := f26.other W30 (Or.inr (slot_ne (Or.inl (hw _ (List.mem_of_getElem? (i := 32) rfl))) (Or.inl (hw _ (List.mem_of_getElem? (i := 22) rfl))) (by decide) (t := .int) (t' := (.array .long)) (by decide) (by decide)))
  have f35 := f27.other W30 (Or.inr (slot_ne (Or.inl (hw _ (List.mem_of_getElem? (i := 34) rfl))) (Or.inl (hw _ (List.mem_of_getElem? (i := 22) rfl))) (by decide) (t := .int) (t' := (.array .long)) (by decide) (by decide)))
  have f36 := f28.other W30 (Or.inr (slot_ne (Or.inl (hw _ (List.mem_of_getElem? (i := 45) rfl))) (Or.inl (hw _ (List.mem_of_getElem? (i := 22) rfl))) (by decide) (t := .int) (t' := (.array .long)) (by decide) (by decide)))
  have f37 := f29.other W30 (Ne.symm ne3)
  have f38 := B19.other W30 (Ne.symm ne20)
  have N30 := Fr.snoc X30 N11 g1
  have K30 := K19.wr W30 (Or.inl (List.mem_of_getElem? (i := 0) rfl))
  have Z30 : n0 ≤ h30.size := Nat.le_trans Z19 (Keep.of_wr W30).1
  obtain ⟨cq39, q39, q39'⟩ := f31.cell
  obtain ⟨_, _, ⟨T39, L39, k39, n39⟩, -, X39, ⟨Lc39, hQ39, l39, y39, z39⟩, st39⟩ := X30.privateBack hx (y := (⟨"com/example/headwater/headwater/headdriven/LongMap", "_use", "(I)V"⟩ : MethodName)) hown (mvT hZ (hw _ (List.mem_of_getElem? (i := 23) rfl))) (mvT hZ (hw _ (List.mem_of_getElem? (i := 24) rfl))) (own_sel (y := (⟨"com/example/headwater/headwater/headdriven/LongMap", "_use", "(I)V"⟩ : MethodName)) hZ (hw _ (List.mem_of_getElem? (i := 12) rfl)) (hw _ (List.mem_of_getElem? (i := 24) rfl)) (hw _ (List.mem_of_getElem? (i := 25) rfl)) (by decide)) (Cond.privateMethod_at (mvP hZ (hw _ (List.mem_of_getElem? (i := 25) rfl)) (args := #[]))) (mvT hZ (hw _ (List.mem_of_getElem? (i := 26) rfl))) (by decide) (backOf (W := 0) (rmU l Z a0 hw [] a1 ((16 : Int32)) s0 (fun _ => .long (0 : Int64)) h30 n0 Z30 f31 f32 f33 f34 f35 f36 f37 ne3 g1 rfl) hZ (hw _ (List.mem_of_getElem? (i := 26) rfl)) (hw _ (List.mem_of_getElem? (i := 13) rfl)) (by decide) (by decide)) (g := (mkF m 21 #[.val (.ref a1)] [(.int (16 : Int32)), (.ref a1)])) rfl (by rw [hml]; rfl) (Steps.refl _) (a := a1) (by rw [e30]; exact q39) q39' (argsL := [(.int (16 : Int32))]) (rest := []) (lenOf pdG_0 rfl) rfl (by show 2 * 0 + _ ≤ _; exact Nat.le_of_eq rfl) (hb hby dG_21) (fun _ _ => ⟨rfl, e30, (by decide : 2 + 2 ≤ _), (by decide : 0 + 40 ≤ _)⟩)
  dsimp only [Pt.U, Pt.locs, Pt.cells, Pt.slots] at X39 l39 y39 z39 st39 hQ39
  subst l39 y39 z39
  obtain ⟨rfl, N39q, K39, sl, us, u1, u2, u3, u4, u5, LM0⟩ := hQ39
  have N39 := Fr.app N30 N39q
  have f40 := f31.keep K39
  have Z39 : n0 ≤ T39.heap.size := Nat.le_trans Z30 K39.1
  have KK39 := K30.trans K39 (allS (Or.inl (List.mem_of_getElem? (i := 0) rfl)) all0)
  have pre41 : ∀ t_, Steps p.tables e below (T39.setTop (mkF m 24 #[.val (.ref a1)] [])) t_ → Steps p.tables e below (s₁.setTop (entryFrame m #[(.ref a1)] 1)) t_ := fun t_ k_ => pre0 t_ (by
      refine XS.aloadN X0.here hx rfl (hb hby dG_0) rfl rfl ?_
      show Steps p.tables e below (s₁.setTop (mkF m 1 #[.val (.ref a1)] [(.ref a1)])) _
      refine st1 _ ?_
      show Steps p.tables e below (T1.setTop (mkF m 4 #[.val (.ref a1)] [])) _
      refine XS.aloadN X1.here hx rfl (hb hby dG_4) rfl rfl ?_
      show Steps p.tables e below (T1.setTop (mkF m 5 #[.val (.ref a1)] [(.ref a1)])) _
      refine XS.iconst X1.here hx rfl (hb hby dG_5) ?_
      show Steps p.tables e below (T1.setTop (mkF m 6 #[.val (.ref a1)] [(.int (0 : Int32)), (.ref a1)])) _
      refine st2 _ ?_
      show Steps p.tables e below (T2.setTop (mkF m 8 #[.val (.ref a1)] [(.ref s0), (.ref a1)])) _
      refine st11 _ ?_
      show Steps p.tables e below (T11.setTop (mkF m 11 #[.val (.ref a1)] [])) _
      refine XS.aloadN X11.here hx rfl (hb hby dG_11) rfl rfl ?_
      show Steps p.tables e below (T11.setTop (mkF m 12 #[.val (.ref a1)] [(.ref a1)])) _
      refine XS.iconst X11.here hx rfl (hb hby dG_12) ?_
      show Steps p.tables e below (T11.setTop (mkF m 13 #[.val (.ref a1)] [(.int (0 : Int32)), (.ref a1)])) _
      refine st19 _ ?_
      show Steps p.tables e below (T19.setTop (mkF m 15 #[.val (.ref a1)] [(.ref s1), (.ref a1)])) _
      refine st30 _ ?_
      show Steps p.tables e below (T30.setTop (mkF m 18 #[.val (.ref a1)] [])) _
      refine XS.aloadN X30.here hx rfl (hb hby dG_18) rfl rfl ?_
      show Steps p.tables e below (T30.setTop (mkF m 19 #[.val (.ref a1)] [(.ref a1)])) _
      refine XS.bipush X30.here hx rfl (hb hby dG_19) ?_
      show Steps p.tables e below (T30.setTop (mkF m 21 #[.val (.ref a1)] [(.int (16 : Int32)), (.ref a1)])) _
      refine st39.trans ?_
      show Steps p.tables e below (T39.setTop (mkF m 24 #[.val (.ref a1)] [])) _
      exact k_)
  obtain ⟨fs, hr, hrun, hended, hW, hsame⟩ := X39.leave (v := none) (fun _ => rfl)
  refine ⟨_, _, pre41 _ ?_, hrun, hended, _, _, rfl, ?_, ⟨_, rfl⟩, hW, hsame.mono (by decide) (by decide)⟩
  · exact X39.returnOut hx Bd.returns (hb hby dG_24) hr
  · show QG Z a1 h0 n0 _ T39.heap _
    exact ⟨rfl, N39, KK39, sl, us, u1, u2, (Nat.le_trans K30.1 u3), (Nat.le_trans K30.1 u4), u5, LM0⟩
theorem own_next {i : Int32} {x : Nat} (hi : i.toInt = (x : Int)) (hx : x < 16) : ((i + (1 : Int32)) &&& ((16 : Int32) - (1 : Int32))).toInt = (((x + 1) % 16 : Nat) : Int) := by
  have q : (i + (1 : Int32)).toInt = ((x + 1 : Nat) : Int) := own_addc (c := 1) rfl hi (by omega) (by decide)
  have e15 : ((16 : Int32) - (1 : Int32)) = (15 : Int32) := by decide
  have q1 : (i + (1 : Int32)).toBitVec.toNat = x + 1 := by
    have h3 : (i + (1 : Int32)).toBitVec.toInt = ((x + 1 : Nat) : Int) := q
    rw [BitVec.toInt_eq_toNat_cond] at h3
    have := (i + (1 : Int32)).toBitVec.isLt
    split at h3 <;> omega
  rw [e15]
  show ((i + (1 : Int32)) &&& (15 : Int32)).toBitVec.toInt = _
  have e : ((i + (1 : Int32)) &&& (15 : Int32)).toBitVec.toNat = (x + 1) % 16 := by
    rw [Int32.toBitVec_and, BitVec.toNat_and, q1]; exact Nat.and_two_pow_sub_one_eq_mod (x + 1) 4
  rw [BitVec.toInt_eq_toNat_cond, e]
  split <;> omega
theorem dS_0 : decode prog_51_method_3_code 0 = .ok (.aload_n 0, 1) := by decide +kernel
theorem dS_1 : decode prog_51_method_3_code 1 = .ok (.getfield 32, 3) := by decide +kernel
theorem dS_4 : decode prog_51_method_3_code 4 = .ok (.iconst 1, 1) := by decide +kernel
theorem dS_5 : decode prog_51_method_3_code 5 = .ok (.isub, 1) := by decide +kernel
theorem dS_6 : decode prog_51_method_3_code 6 = .ok (.istore_n 3, 1) := by decide +kernel
theorem dS_7 : decode prog_51_method_3_code 7 = .ok (.lload_n 1, 1) := by decide +kernel
theorem dS_8 : decode prog_51_method_3_code 8 = .ok (.ldc2_w 42, 3) := by decide +kernel
theorem dS_11 : decode prog_51_method_3_code 11 = .ok (.lmul, 1) := by decide +kernel
theorem dS_12 : decode prog_51_method_3_code 12 = .ok (.aload_n 0, 1) := by decide +kernel
theorem dS_13 : decode prog_51_method_3_code 13 = .ok (.getfield 39, 3) := by decide +kernel
theorem dS_16 : decode prog_51_method_3_code 16 = .ok (.lushr, 1) := by decide +kernel
theorem dS_17 : decode prog_51_method_3_code 17 = .ok (.l2i, 1) := by decide +kernel
theorem dS_18 : decode prog_51_method_3_code 18 = .ok (.istore 4, 2) := by decide +kernel
theorem dS_20 : decode prog_51_method_3_code 20 = .ok (.aload_n 0, 1) := by decide +kernel
theorem dS_21 : decode prog_51_method_3_code 21 = .ok (.getfield 9, 3) := by decide +kernel
theorem dS_24 : decode prog_51_method_3_code 24 = .ok (.iconst 2, 1) := by decide +kernel
theorem dS_25 : decode prog_51_method_3_code 25 = .ok (.iload 4, 2) := by decide +kernel
theorem dS_27 : decode prog_51_method_3_code 27 = .ok (.imul, 1) := by decide +kernel
theorem dS_28 : decode prog_51_method_3_code 28 = .ok (.laload, 1) := by decide +kernel
theorem dS_29 : decode prog_51_method_3_code 29 = .ok (.ldc2_w 22, 3) := by decide +kernel
theorem dS_32 : decode prog_51_method_3_code 32 = .ok (.lcmp, 1) := by decide +kernel
theorem dS_33 : decode prog_51_method_3_code 33 = .ok (.ifCond .eq 28, 3) := by decide +kernel
theorem dS_36 : decode prog_51_method_3_code 36 = .ok (.aload_n 0, 1) := by decide +kernel
theorem dS_37 : decode prog_51_method_3_code 37 = .ok (.getfield 9, 3) := by decide +kernel
theorem dS_40 : decode prog_51_method_3_code 40 = .ok (.iconst 2, 1) := by decide +kernel
theorem dS_41 : decode prog_51_method_3_code 41 = .ok (.iload 4, 2) := by decide +kernel
theorem dS_43 : decode prog_51_method_3_code 43 = .ok (.imul, 1) := by decide +kernel
theorem dS_44 : decode prog_51_method_3_code 44 = .ok (.laload, 1) := by decide +kernel
theorem dS_45 : decode prog_51_method_3_code 45 = .ok (.lload_n 1, 1) := by decide +kernel
theorem dS_46 : decode prog_51_method_3_code 46 = .ok (.lcmp, 1) := by decide +kernel
theorem dS_47 : decode prog_51_method_3_code 47 = .ok (.ifCond .eq 14, 3) := by decide +kernel
theorem dS_50 : decode prog_51_method_3_code 50 = .ok (.iload 4, 2) := by decide +kernel
theorem dS_52 : decode prog_51_method_3_code 52 = .ok (.iconst 1, 1) := by decide +kernel
theorem dS_53 : decode prog_51_method_3_code 53 = .ok (.iadd, 1) := by decide +kernel
theorem dS_54 : decode prog_51_method_3_code 54 = .ok (.iload_n 3, 1) := by decide +kernel
theorem dS_55 : decode prog_51_method_3_code 55 = .ok (.iand, 1) := by decide +kernel
theorem dS_56 : decode prog_51_method_3_code 56 = .ok (.istore 4, 2) := by decide +kernel
theorem dS_58 : decode prog_51_method_3_code 58 = .ok (.goto (-38), 3) := by decide +kernel
theorem dS_61 : decode prog_51_method_3_code 61 = .ok (.iconst 2, 1) := by decide +kernel
theorem dS_62 : decode prog_51_method_3_code 62 = .ok (.iload 4, 2) := by decide +kernel
theorem dS_64 : decode prog_51_method_3_code 64 = .ok (.imul, 1) := by decide +kernel
theorem dS_65 : decode prog_51_method_3_code 65 = .ok (.ireturn, 1) := by decide +kernel
theorem pnS : plainName "com/example/headwater/headwater/headdriven/LongMap" = true := by first | (simp [plainName, overriddenIn]; done) | decide +kernel
theorem efS (m : MethodId) (a1 : Addr) (q2 : Int64) : entryFrame m #[(.ref a1), (.long q2)] 5 = mkF m 0 #[.val (.ref a1), .val (.long q2), .second, .unset, .unset] [] := by first | (simp [entryFrame, mkF, argsToLocals, Value.category]; done) | rfl
def QS (Z : State) (a1 : Addr) (q2 : Int64) (sl : Addr) (K V : Nat → Int64) (h0 : Heap) (n0 : Nat) (v : Option Value) (h : Heap) (L : List Loc) : Prop := v = some (.int (Int32.ofNat (2 * own_slot K q2))) ∧ Fr n0 L ∧ h = h0
set_option maxRecDepth 65536 in
set_option maxHeartbeats 40000000 in
theorem rmS (l : Launch) (Z : State) (a0 : Array Value) (hw : ∀ d ∈ tables_1, d.before a0 Z = true) (ws : List Jvm.Cond) (a1 : Addr) (q2 : Int64) (sl : Addr) (K V : Nat → Int64) (h0 : Heap) (n0 : Nat) (Z0 : n0 ≤ h0.size) (F1 : Fld Z h0 a1 "com/example/headwater/headwater/headdriven/LongMap" "m_aSlots" "[J" (.ref sl)) (F4 : Fld Z h0 a1 "com/example/headwater/headwater/headdriven/LongMap" "m_nSlots" "I" (.int (16 : Int32))) (F5 : Fld Z h0 a1 "com/example/headwater/headwater/headdriven/LongMap" "m_nShift" "I" (.int (60 : Int32))) (A1 : OArr Z h0 sl .long 32 (own_kv K V)) (hst : K (own_slot K q2) = own_FREE ∨ K (own_slot K q2) = q2) :
    MetFree l (⟨"com/example/headwater/headwater/headdriven/LongMap", "_slot", "(J)I"⟩ : MethodName) (head1 (Jvm.Cond.code (⟨"com/example/headwater/headwater/headdriven/LongMap", "_slot", "(J)I"⟩ : MethodName) prog_51_method_3_code 5 (some .int) :: ws) ({ frames := 0, cells := 0, slots := 0, locals := 0 } : Room)) (fun a U => a = #[(.ref a1), (.long q2)] ∧ Z.Warmed39 U.vm ∧ U.heap = h0) (fun _ _ _ _ _ => True) (fun _ U o U' => ∃ v L, o = .returned v ∧ QS Z a1 q2 sl K V h0 n0 v U'.heap L ∧ FrameEnd U o U' L ({ frames := 0, cells := 0, slots := 0, locals := 0 } : Room).cells ({ frames := 0, cells := 0, slots := 0, locals := 0 } : Room).slots) := by
  refine MetFree.of_bodySF (plainFor_of_name pnS) hisR ?_
  intro p e s m args below meth c s₁ Bd hml0 hP hK
  obtain ⟨rfl, hZ, hh⟩ := hP
  have hx := Bd.exec
  have hby := Bd.bytes
  have hml : c.maxLocals = 5 := hml0
  have hown : s.vm.findClass "com/example/headwater/headwater/headdriven/LongMap" = some m.cls := findClass_of_methodNamed Bd.named
  have hnm := (name_of_methodNamed Bd.named Bd.method).1
  have X0 : Stand p l e ({ frames := 0, cells := 0, slots := 0, locals := 0 } : Room) s m #[(.ref a1), (.long q2)] below meth c s₁ [] 0 0 := Stand.of_body Bd
  have e0 : s₁.heap = h0 := by rw [← hh, Bd.state]; rfl
  have N0 := Fr.nil n0
  have pre0 : ∀ t, Steps p.tables e below (s₁.setTop (mkF m 0 #[.val (.ref a1), .val (.long q2), .second, .unset, .unset] [])) t → Steps p.tables e below (s₁.setTop (entryFrame m #[(.ref a1), (.long q2)] 5)) t := fun t k => castTop (efS m a1 q2) k
  obtain ⟨T1, X1, e1, st1⟩ := getF X0 hx hZ hown (host := "") (Or.inl (hw _ (List.mem_of_getElem? (i := 33) rfl))) Via.refl e0 F4 (g := (mkF m 1 #[.val (.ref a1), .val (.long q2), .second, .unset, .unset] [(.ref a1)])) rfl rfl (hb hby dS_1)
  obtain ⟨T2, X2, e2, st2⟩ := getF X1 hx hZ hown (host := "") (Or.inl (hw _ (List.mem_of_getElem? (i := 44) rfl))) Via.refl e1 F5 (g := (mkF m 13 #[.val (.ref a1), .val (.long q2), .second, .val (.int ((16 : Int32) - (1 : Int32))), .unset] [(.ref a1), (.long (q2 * (-7046029254386353131 : Int64)))])) rfl rfl (hb hby dS_13)
  have pre3 : ∀ t_, Steps p.tables e below (T2.setTop (mkF m 20 #[.val (.ref a1), .val (.long q2), .second, .val (.int ((16 : Int32) - (1 : Int32))), .val (.int ((((q2 * (-7046029254386353131 : Int64)).toUInt64 >>> ((60 : Int32) &&& 0x3f).toInt64.toUInt64).toInt64).toInt32))] [])) t_ → Steps p.tables e below (s₁.setTop (entryFrame m #[(.ref a1), (.long q2)] 5)) t_ := fun t_ k_ => pre0 t_ (by
      refine XS.aloadN X0.here hx rfl (hb hby dS_0) rfl rfl ?_
      show Steps p.tables e below (s₁.setTop (mkF m 1 #[.val (.ref a1), .val (.long q2), .second, .unset, .unset] [(.ref a1)])) _
      refine st1 _ ?_
      show Steps p.tables e below (T1.setTop (mkF m 4 #[.val (.ref a1), .val (.long q2), .second, .unset, .unset] [(.int (16 : Int32))])) _
      refine XS.iconst X1.here hx rfl (hb hby dS_4) ?_
      show Steps p.tables e below (T1.setTop (mkF m 5 #[.val (.ref a1), .val (.long q2), .second, .unset, .unset] [(.int (1 : Int32)), (.int (16 : Int32))])) _
      refine XS.isub X1.here hx rfl (hb hby dS_5) rfl ?_
      show Steps p.tables e below (T1.setTop (mkF m 6 #[.val (.ref a1), .val (.long q2), .second, .unset, .unset] [(.int ((16 : Int32) - (1 : Int32)))])) _
      refine XS.istoreN X1.here hx rfl (hb hby dS_6) rfl (l' := #[.val (.ref a1), .val (.long q2), .second, .val (.int ((16 : Int32) - (1 : Int32))), .unset]) rfl ?_
      show Steps p.tables e below (T1.setTop (mkF m 7 #[.val (.ref a1), .val (.long q2), .second, .val (.int ((16 : Int32) - (1 : Int32))), .unset] [])) _
      refine XS.lloadN X1.here hx rfl (hb hby dS_7) rfl ?_
      show Steps p.tables e below (T1.setTop (mkF m 8 #[.val (.ref a1), .val (.long q2), .second, .val (.int ((16 : Int32) - (1 : Int32))), .unset] [(.long q2)])) _
      refine X1.ldc2Long hx hown (mvT hZ (hw _ (List.mem_of_getElem? (i := 87) rfl))) (g := (mkF m 8 #[.val (.ref a1), .val (.long q2), .second, .val (.int ((16 : Int32) - (1 : Int32))), .unset] [(.long q2)])) rfl (hb hby dS_8) _ ?_
      show Steps p.tables e below (T1.setTop (mkF m 11 #[.val (.ref a1), .val (.long q2), .second, .val (.int ((16 : Int32) - (1 : Int32))), .unset] [(.long (-7046029254386353131 : Int64)), (.long q2)])) _
      refine XS.lmul X1.here hx rfl (hb hby dS_11) rfl ?_
      show Steps p.tables e below (T1.setTop (mkF m 12 #[.val (.ref a1), .val (.long q2), .second, .val (.int ((16 : Int32) - (1 : Int32))), .unset] [(.long (q2 * (-7046029254386353131 : Int64)))])) _
      refine XS.aloadN X1.here hx rfl (hb hby dS_12) rfl rfl ?_
      show Steps p.tables e below (T1.setTop (mkF m 13 #[.val (.ref a1), .val (.long q2), .second, .val (.int ((16 : Int32) - (1 : Int32))), .unset] [(.ref a1), (.long (q2 * (-7046029254386353131 : Int64)))])) _
      refine st2 _ ?_
      show Steps p.tables e below (T2.setTop (mkF m 16 #[.val (.ref a1), .val (.long q2), .second, .val (.int ((16 : Int32) - (1 : Int32))), .unset] [(.int (60 : Int32)), (.long (q2 * (-7046029254386353131 : Int64)))])) _
      refine XS.lushr X2.here hx rfl (hb hby dS_16) rfl ?_
      show Steps p.tables e below (T2.setTop (mkF m 17 #[.val (.ref a1), .val (.long q2), .second, .val (.int ((16 : Int32) - (1 : Int32))), .unset] [(.long (((q2 * (-7046029254386353131 : Int64)).toUInt64 >>> ((60 : Int32) &&& 0x3f).toInt64.toUInt64).toInt64))])) _
      refine XS.l2i X2.here hx rfl (hb hby dS_17) rfl ?_
      show Steps p.tables e below (T2.setTop (mkF m 18 #[.val (.ref a1), .val (.long q2), .second, .val (.int ((16 : Int32) - (1 : Int32))), .unset] [(.int ((((q2 * (-7046029254386353131 : Int64)).toUInt64 >>> ((60 : Int32) &&& 0x3f).toInt64.toUInt64).toInt64).toInt32))])) _
      refine XS.istore X2.here hx rfl (hb hby dS_18) rfl (l' := #[.val (.ref a1), .val (.long q2), .second, .val (.int ((16 : Int32) - (1 : Int32))), .val (.int ((((q2 * (-7046029254386353131 : Int64)).toUInt64 >>> ((60 : Int32) &&& 0x3f).toInt64.toUInt64).toInt64).toInt32))]) rfl ?_
      show Steps p.tables e below (T2.setTop (mkF m 20 #[.val (.ref a1), .val (.long q2), .second, .val (.int ((16 : Int32) - (1 : Int32))), .val (.int ((((q2 * (-7046029254386353131 : Int64)).toUInt64 >>> ((60 : Int32) &&& 0x3f).toInt64.toUInt64).toInt64).toInt32))] [])) _
      exact k_)
  have loop : ∀ (n x : Nat) (T0 : State) (i : Int32), x < 16 → i.toInt = (x : Int) → own_f K q2 n x = own_slot K q2 → Stand p l e ({ frames := 0, cells := 0, slots := 0, locals := 0 } : Room) s m #[(.ref a1), (.long q2)] below meth c T0 [] 0 0 → T0.heap = h0 →
      ∃ (T' : State) (i' : Int32), Stand p l e ({ frames := 0, cells := 0, slots := 0, locals := 0 } : Room) s m #[(.ref a1), (.long q2)] below meth c T' [] 0 0 ∧ T'.heap = h0 ∧ i'.toInt = (own_slot K q2 : Int) ∧ ∀ t, Steps p.tables e below (T'.setTop (mkF m 61 #[.val (.ref a1), .val (.long q2), .second, .val (.int ((16 : Int32) - (1 : Int32))), .val (.int i')] [])) t → Steps p.tables e below (T0.setTop (mkF m 20 #[.val (.ref a1), .val (.long q2), .second, .val (.int ((16 : Int32) - (1 : Int32))), .val (.int i)] [])) t := by
    intro n
    induction n with
    | zero =>
      intro x T0 i hx16 hi hf X0 e0
      by_cases hF : K x = own_FREE
      ·
        obtain ⟨T4, X4, e4, st4⟩ := getF X0 hx hZ hown (host := "") (Or.inl (hw _ (List.mem_of_getElem? (i := 19) rfl))) Via.refl e0 F1 (g := (mkF m 21 #[.val (.ref a1), .val (.long q2), .second, .val (.int ((16 : Int32) - (1 : Int32))), .val (.int i)] [(.ref a1)])) rfl rfl (hb hby dS_21)
        have pre5 : ∀ t_, Steps p.tables e below (T4.setTop (mkF m 61 #[.val (.ref a1), .val (.long q2), .second, .val (.int ((16 : Int32) - (1 : Int32))), .val (.int i)] [])) t_ → Steps p.tables e below (T0.setTop (mkF m 20 #[.val (.ref a1), .val (.long q2), .second, .val (.int ((16 : Int32) - (1 : Int32))), .val (.int i)] [])) t_ := fun t_ k_ => (by
            refine XS.aloadN X0.here hx rfl (hb hby dS_20) rfl rfl ?_
            show Steps p.tables e below (T0.setTop (mkF m 21 #[.val (.ref a1), .val (.long q2), .second, .val (.int ((16 : Int32) - (1 : Int32))), .val (.int i)] [(.ref a1)])) _
            refine st4 _ ?_
            show Steps p.tables e below (T4.setTop (mkF m 24 #[.val (.ref a1), .val (.long q2), .second, .val (.int ((16 : Int32) - (1 : Int32))), .val (.int i)] [(.ref sl)])) _
            refine XS.iconst X4.here hx rfl (hb hby dS_24) ?_
            show Steps p.tables e below (T4.setTop (mkF m 25 #[.val (.ref a1), .val (.long q2), .second, .val (.int ((16 : Int32) - (1 : Int32))), .val (.int i)] [(.int (2 : Int32)), (.ref sl)])) _
            refine XS.iload X4.here hx rfl (hb hby dS_25) rfl ?_
            show Steps p.tables e below (T4.setTop (mkF m 27 #[.val (.ref a1), .val (.long q2), .second, .val (.int ((16 : Int32) - (1 : Int32))), .val (.int i)] [(.int i), (.int (2 : Int32)), (.ref sl)])) _
            refine XS.imul X4.here hx rfl (hb hby dS_27) rfl ?_
            show Steps p.tables e below (T4.setTop (mkF m 28 #[.val (.ref a1), .val (.long q2), .second, .val (.int ((16 : Int32) - (1 : Int32))), .val (.int i)] [(.int ((2 : Int32) * i)), (.ref sl)])) _
            refine oLdJ X4 hx hZ e4 A1 (k := (2 * x)) (own_dbl hi (by omega)) (by omega) (v := (K x)) (own_kv_k K V x) (g := (mkF m 28 #[.val (.ref a1), .val (.long q2), .second, .val (.int ((16 : Int32) - (1 : Int32))), .val (.int i)] [(.int ((2 : Int32) * i)), (.ref sl)])) rfl rfl (hb hby dS_28) _ ?_
            show Steps p.tables e below (T4.setTop (mkF m 29 #[.val (.ref a1), .val (.long q2), .second, .val (.int ((16 : Int32) - (1 : Int32))), .val (.int i)] [(.long (K x))])) _
            refine X4.ldc2Long hx hown (mvT hZ (hw _ (List.mem_of_getElem? (i := 27) rfl))) (g := (mkF m 29 #[.val (.ref a1), .val (.long q2), .second, .val (.int ((16 : Int32) - (1 : Int32))), .val (.int i)] [(.long (K x))])) rfl (hb hby dS_29) _ ?_
            show Steps p.tables e below (T4.setTop (mkF m 32 #[.val (.ref a1), .val (.long q2), .second, .val (.int ((16 : Int32) - (1 : Int32))), .val (.int i)] [(.long (-9223372036854775808 : Int64)), (.long (K x))])) _
            refine XS.lcmp X4.here hx rfl (hb hby dS_32) rfl ?_
            show Steps p.tables e below (T4.setTop (mkF m 33 #[.val (.ref a1), .val (.long q2), .second, .val (.int ((16 : Int32) - (1 : Int32))), .val (.int i)] [(.int (lcmpW (K x) (-9223372036854775808 : Int64)))])) _
            refine XS.ifYes X4.here hx rfl (pc0 := 33) (pc' := 61) rfl (hb hby dS_33) rfl ((if0 _ _).trans (teq (own_lc hF)).1) (by decide) (by decide) ?_
            show Steps p.tables e below (T4.setTop (mkF m 61 #[.val (.ref a1), .val (.long q2), .second, .val (.int ((16 : Int32) - (1 : Int32))), .val (.int i)] [])) _
            exact k_)
        have hsx : x = own_slot K q2 := by rw [← hf]; exact rfl
        exact ⟨T4, i, X4, e4, by rw [← hsx]; exact hi, pre5⟩
      ·
        by_cases hQ : K x = q2
        ·
          obtain ⟨T6, X6, e6, st6⟩ := getF X0 hx hZ hown (host := "") (Or.inl (hw _ (List.mem_of_getElem? (i := 19) rfl))) Via.refl e0 F1 (g := (mkF m 21 #[.val (.ref a1), .val (.long q2), .second, .val (.int ((16 : Int32) - (1 : Int32))), .val (.int i)] [(.ref a1)])) rfl rfl (hb hby dS_21)
          obtain ⟨T7, X7, e7, st7⟩ := getF X6 hx hZ hown (host := "") (Or.inl (hw _ (List.mem_of_getElem? (i := 19) rfl))) Via.refl e6 F1 (g := (mkF m 37 #[.val (.ref a1), .val (.long q2), .second, .val (.int ((16 : Int32) - (1 : Int32))), .val (.int i)] [(.ref a1)])) rfl rfl (hb hby dS_37)
          have pre8 : ∀ t_, Steps p.tables e below (T7.setTop (mkF m 61 #[.val (.ref a1), .val (.long q2), .second, .val (.int ((16 : Int32) - (1 : Int32))), .val (.int i)] [])) t_ → Steps p.tables e below (T0.setTop (mkF m 20 #[.val (.ref a1), .val (.long q2), .second, .val (.int ((16 : Int32) - (1 : Int32))), .val (.int i)] [])) t_ := fun t_ k_ => (by
              refine XS.aloadN X0.here hx rfl (hb hby dS_20) rfl rfl ?_
              show Steps p.tables e below (T0.setTop (mkF m 21 #[.val (.ref a1), .val (.long q2), .second, .val (.int ((16 : Int32) - (1 : Int32))), .val (.int i)] [(.ref a1)])) _
              refine st6 _ ?_
              show Steps p.tables e below (T6.setTop (mkF m 24 #[.val (.ref a1), .val (.long q2), .second, .val (.int ((16 : Int32) - (1 : Int32))), .val (.int i)] [(.ref sl)])) _
              refine XS.iconst X6.here hx rfl (hb hby dS_24) ?_
              show Steps p.tables e below (T6.setTop (mkF m 25 #[.val (.ref a1), .val (.long q2), .second, .val (.int ((16 : Int32) - (1 : Int32))), .val (.int i)] [(.int (2 : Int32)), (.ref sl)])) _
              refine XS.iload X6.here hx rfl (hb hby dS_25) rfl ?_
              show Steps p.tables e below (T6.setTop (mkF m 27 #[.val (.ref a1), .val (.long q2), .second, .val (.int ((16 : Int32) - (1 : Int32))), .val (.int i)] [(.int i), (.int (2 : Int32)), (.ref sl)])) _
              refine XS.imul X6.here hx rfl (hb hby dS_27) rfl ?_
              show Steps p.tables e below (T6.setTop (mkF m 28 #[.val (.ref a1), .val (.long q2), .second, .val (.int ((16 : Int32) - (1 : Int32))), .val (.int i)] [(.int ((2 : Int32) * i)), (.ref sl)])) _
              refine oLdJ X6 hx hZ e6 A1 (k := (2 * x)) (own_dbl hi (by omega)) (by omega) (v := (K x)) (own_kv_k K V x) (g := (mkF m 28 #[.val (.ref a1), .val (.long q2), .second, .val (.int ((16 : Int32) - (1 : Int32))), .val (.int i)] [(.int ((2 : Int32) * i)), (.ref sl)])) rfl rfl (hb hby dS_28) _ ?_
              show Steps p.tables e below (T6.setTop (mkF m 29 #[.val (.ref a1), .val (.long q2), .second, .val (.int ((16 : Int32) - (1 : Int32))), .val (.int i)] [(.long (K x))])) _
              refine X6.ldc2Long hx hown (mvT hZ (hw _ (List.mem_of_getElem? (i := 27) rfl))) (g := (mkF m 29 #[.val (.ref a1), .val (.long q2), .second, .val (.int ((16 : Int32) - (1 : Int32))), .val (.int i)] [(.long (K x))])) rfl (hb hby dS_29) _ ?_
              show Steps p.tables e below (T6.setTop (mkF m 32 #[.val (.ref a1), .val (.long q2), .second, .val (.int ((16 : Int32) - (1 : Int32))), .val (.int i)] [(.long (-9223372036854775808 : Int64)), (.long (K x))])) _
              refine XS.lcmp X6.here hx rfl (hb hby dS_32) rfl ?_
              show Steps p.tables e below (T6.setTop (mkF m 33 #[.val (.ref a1), .val (.long q2), .second, .val (.int ((16 : Int32) - (1 : Int32))), .val (.int i)] [(.int (lcmpW (K x) (-9223372036854775808 : Int64)))])) _
              refine XS.ifNo X6.here hx rfl (hb hby dS_33) rfl ((if0 _ _).trans (feq (own_lcn hF)).1) ?_
              show Steps p.tables e below (T6.setTop (mkF m 36 #[.val (.ref a1), .val (.long q2), .second, .val (.int ((16 : Int32) - (1 : Int32))), .val (.int i)] [])) _
              refine XS.aloadN X6.here hx rfl (hb hby dS_36) rfl rfl ?_
              show Steps p.tables e below (T6.setTop (mkF m 37 #[.val (.ref a1), .val (.long q2), .second, .val (.int ((16 : Int32) - (1 : Int32))), .val (.int i)] [(.ref a1)])) _
              refine st7 _ ?_
              show Steps p.tables e below (T7.setTop (mkF m 40 #[.val (.ref a1), .val (.long q2), .second, .val (.int ((16 : Int32) - (1 : Int32))), .val (.int i)] [(.ref sl)])) _
              refine XS.iconst X7.here hx rfl (hb hby dS_40) ?_
              show Steps p.tables e below (T7.setTop (mkF m 41 #[.val (.ref a1), .val (.long q2), .second, .val (.int ((16 : Int32) - (1 : Int32))), .val (.int i)] [(.int (2 : Int32)), (.ref sl)])) _
              refine XS.iload X7.here hx rfl (hb hby dS_41) rfl ?_
              show Steps p.tables e below (T7.setTop (mkF m 43 #[.val (.ref a1), .val (.long q2), .second, .val (.int ((16 : Int32) - (1 : Int32))), .val (.int i)] [(.int i), (.int (2 : Int32)), (.ref sl)])) _
              refine XS.imul X7.here hx rfl (hb hby dS_43) rfl ?_
              show Steps p.tables e below (T7.setTop (mkF m 44 #[.val (.ref a1), .val (.long q2), .second, .val (.int ((16 : Int32) - (1 : Int32))), .val (.int i)] [(.int ((2 : Int32) * i)), (.ref sl)])) _
              refine oLdJ X7 hx hZ e7 A1 (k := (2 * x)) (own_dbl hi (by omega)) (by omega) (v := (K x)) (own_kv_k K V x) (g := (mkF m 44 #[.val (.ref a1), .val (.long q2), .second, .val (.int ((16 : Int32) - (1 : Int32))), .val (.int i)] [(.int ((2 : Int32) * i)), (.ref sl)])) rfl rfl (hb hby dS_44) _ ?_
              show Steps p.tables e below (T7.setTop (mkF m 45 #[.val (.ref a1), .val (.long q2), .second, .val (.int ((16 : Int32) - (1 : Int32))), .val (.int i)] [(.long (K x))])) _
              refine XS.lloadN X7.here hx rfl (hb hby dS_45) rfl ?_
              show Steps p.tables e below (T7.setTop (mkF m 46 #[.val (.ref a1), .val (.long q2), .second, .val (.int ((16 : Int32) - (1 : Int32))), .val (.int i)] [(.long q2), (.long (K x))])) _
              refine XS.lcmp X7.here hx rfl (hb hby dS_46) rfl ?_
              show Steps p.tables e below (T7.setTop (mkF m 47 #[.val (.ref a1), .val (.long q2), .second, .val (.int ((16 : Int32) - (1 : Int32))), .val (.int i)] [(.int (lcmpW (K x) q2))])) _
              refine XS.ifYes X7.here hx rfl (pc0 := 47) (pc' := 61) rfl (hb hby dS_47) rfl ((if0 _ _).trans (teq (own_lc hQ)).1) (by decide) (by decide) ?_
              show Steps p.tables e below (T7.setTop (mkF m 61 #[.val (.ref a1), .val (.long q2), .second, .val (.int ((16 : Int32) - (1 : Int32))), .val (.int i)] [])) _
              exact k_)
          have hsx : x = own_slot K q2 := by rw [← hf]; exact rfl
          exact ⟨T7, i, X7, e7, by rw [← hsx]; exact hi, pre8⟩
        ·
          exfalso
          have hsx : x = own_slot K q2 := hf
          rw [← hsx] at hst
          exact hst.elim hF hQ
    | succ n ih =>
      intro x T0 i hx16 hi hf X0 e0
      by_cases hF : K x = own_FREE
      ·
        obtain ⟨T9, X9, e9, st9⟩ := getF X0 hx hZ hown (host := "") (Or.inl (hw _ (List.mem_of_getElem? (i := 19) rfl))) Via.refl e0 F1 (g := (mkF m 21 #[.val (.ref a1), .val (.long q2), .second, .val (.int ((16 : Int32) - (1 : Int32))), .val (.int i)] [(.ref a1)])) rfl rfl (hb hby dS_21)
        have pre10 : ∀ t_, Steps p.tables e below (T9.setTop (mkF m 61 #[.val (.ref a1), .val (.long q2), .second, .val (.int ((16 : Int32) - (1 : Int32))), .val (.int i)] [])) t_ → Steps p.tables e below (T0.setTop (mkF m 20 #[.val (.ref a1), .val (.long q2), .second, .val (.int ((16 : Int32) - (1 : Int32))), .val (.int i)] [])) t_ := fun t_ k_ => (by
            refine XS.aloadN X0.here hx rfl (hb hby dS_20) rfl rfl ?_
            show Steps p.tables e below (T0.setTop (mkF m 21 #[.val (.ref a1), .val (.long q2), .second, .val (.int ((16 : Int32) - (1 : Int32))), .val (.int i)] [(.ref a1)])) _
            refine st9 _ ?_
            show Steps p.tables e below (T9.setTop (mkF m 24 #[.val (.ref a1), .val (.long q2), .second, .val (.int ((16 : Int32) - (1 : Int32))), .val (.int i)] [(.ref sl)])) _
            refine XS.iconst X9.here hx rfl (hb hby dS_24) ?_
            show Steps p.tables e below (T9.setTop (mkF m 25 #[.val (.ref a1), .val (.long q2), .second, .val (.int ((16 : Int32) - (1 : Int32))), .val (.int i)] [(.int (2 : Int32)), (.ref sl)])) _
            refine XS.iload X9.here hx rfl (hb hby dS_25) rfl ?_
            show Steps p.tables e below (T9.setTop (mkF m 27 #[.val (.ref a1), .val (.long q2), .second, .val (.int ((16 : Int32) - (1 : Int32))), .val (.int i)] [(.int i), (.int (2 : Int32)), (.ref sl)])) _
            refine XS.imul X9.here hx rfl (hb hby dS_27) rfl ?_
            show Steps p.tables e below (T9.setTop (mkF m 28 #[.val (.ref a1), .val (.long q2), .second, .val (.int ((16 : Int32) - (1 : Int32))), .val (.int i)] [(.int ((2 : Int32) * i)), (.ref sl)])) _
            refine oLdJ X9 hx hZ e9 A1 (k := (2 * x)) (own_dbl hi (by omega)) (by omega) (v := (K x)) (own_kv_k K V x) (g := (mkF m 28 #[.val (.ref a1), .val (.long q2), .second, .val (.int ((16 : Int32) - (1 : Int32))), .val (.int i)] [(.int ((2 : Int32) * i)), (.ref sl)])) rfl rfl (hb hby dS_28) _ ?_
            show Steps p.tables e below (T9.setTop (mkF m 29 #[.val (.ref a1), .val (.long q2), .second, .val (.int ((16 : Int32) - (1 : Int32))), .val (.int i)] [(.long (K x))])) _
            refine X9.ldc2Long hx hown (mvT hZ (hw _ (List.mem_of_getElem? (i := 27) rfl))) (g := (mkF m 29 #[.val (.ref a1), .val (.long q2), .second, .val (.int ((16 : Int32) - (1 : Int32))), .val (.int i)] [(.long (K x))])) rfl (hb hby dS_29) _ ?_
            show Steps p.tables e below (T9.setTop (mkF m 32 #[.val (.ref a1), .val (.long q2), .second, .val (.int ((16 : Int32) - (1 : Int32))), .val (.int i)] [(.long (-9223372036854775808 : Int64)), (.long (K x))])) _
            refine XS.lcmp X9.here hx rfl (hb hby dS_32) rfl ?_
            show Steps p.tables e below (T9.setTop (mkF m 33 #[.val (.ref a1), .val (.long q2), .second, .val (.int ((16 : Int32) - (1 : Int32))), .val (.int i)] [(.int (lcmpW (K x) (-9223372036854775808 : Int64)))])) _
            refine XS.ifYes X9.here hx rfl (pc0 := 33) (pc' := 61) rfl (hb hby dS_33) rfl ((if0 _ _).trans (teq (own_lc hF)).1) (by decide) (by decide) ?_
            show Steps p.tables e below (T9.setTop (mkF m 61 #[.val (.ref a1), .val (.long q2), .second, .val (.int ((16 : Int32) - (1 : Int32))), .val (.int i)] [])) _
            exact k_)
        have hsx : x = own_slot K q2 := by rw [← hf]; exact (own_f_stopAt (Or.inl hF)).symm
        exact ⟨T9, i, X9, e9, by rw [← hsx]; exact hi, pre10⟩
      ·
        by_cases hQ : K x = q2
        ·
          obtain ⟨T11, X11, e11, st11⟩ := getF X0 hx hZ hown (host := "") (Or.inl (hw _ (List.mem_of_getElem? (i := 19) rfl))) Via.refl e0 F1 (g := (mkF m 21 #[.val (.ref a1), .val (.long q2), .second, .val (.int ((16 : Int32) - (1 : Int32))), .val (.int i)] [(.ref a1)])) rfl rfl (hb hby dS_21)
          obtain ⟨T12, X12, e12, st12⟩ := getF X11 hx hZ hown (host := "") (Or.inl (hw _ (List.mem_of_getElem? (i := 19) rfl))) Via.refl e11 F1 (g := (mkF m 37 #[.val (.ref a1), .val (.long q2), .second, .val (.int ((16 : Int32) - (1 : Int32))), .val (.int i)] [(.ref a1)])) rfl rfl (hb hby dS_37)
          have pre13 : ∀ t_, Steps p.tables e below (T12.setTop (mkF m 61 #[.val (.ref a1), .val (.long q2), .second, .val (.int ((16 : Int32) - (1 : Int32))), .val (.int i)] [])) t_ → Steps p.tables e below (T0.setTop (mkF m 20 #[.val (.ref a1), .val (.long q2), .second, .val (.int ((16 : Int32) - (1 : Int32))), .val (.int i)] [])) t_ := fun t_ k_ => (by
              refine XS.aloadN X0.here hx rfl (hb hby dS_20) rfl rfl ?_
              show Steps p.tables e below (T0.setTop (mkF m 21 #[.val (.ref a1), .val (.long q2), .second, .val (.int ((16 : Int32) - (1 : Int32))), .val (.int i)] [(.ref a1)])) _
              refine st11 _ ?_
              show Steps p.tables e below (T11.setTop (mkF m 24 #[.val (.ref a1), .val (.long q2), .second, .val (.int ((16 : Int32) - (1 : Int32))), .val (.int i)] [(.ref sl)])) _
              refine XS.iconst X11.here hx rfl (hb hby dS_24) ?_
              show Steps p.tables e below (T11.setTop (mkF m 25 #[.val (.ref a1), .val (.long q2), .second, .val (.int ((16 : Int32) - (1 : Int32))), .val (.int i)] [(.int (2 : Int32)), (.ref sl)])) _
              refine XS.iload X11.here hx rfl (hb hby dS_25) rfl ?_
              show Steps p.tables e below (T11.setTop (mkF m 27 #[.val (.ref a1), .val (.long q2), .second, .val (.int ((16 : Int32) - (1 : Int32))), .val (.int i)] [(.int i), (.int (2 : Int32)), (.ref sl)])) _
              refine XS.imul X11.here hx rfl (hb hby dS_27) rfl ?_
              show Steps p.tables e below (T11.setTop (mkF m 28 #[.val (.ref a1), .val (.long q2), .second, .val (.int ((16 : Int32) - (1 : Int32))), .val (.int i)] [(.int ((2 : Int32) * i)), (.ref sl)])) _
              refine oLdJ X11 hx hZ e11 A1 (k := (2 * x)) (own_dbl hi (by omega)) (by omega) (v := (K x)) (own_kv_k K V x) (g := (mkF m 28 #[.val (.ref a1), .val (.long q2), .second, .val (.int ((16 : Int32) - (1 : Int32))), .val (.int i)] [(.int ((2 : Int32) * i)), (.ref sl)])) rfl rfl (hb hby dS_28) _ ?_
              show Steps p.tables e below (T11.setTop (mkF m 29 #[.val (.ref a1), .val (.long q2), .second, .val (.int ((16 : Int32) - (1 : Int32))), .val (.int i)] [(.long (K x))])) _
              refine X11.ldc2Long hx hown (mvT hZ (hw _ (List.mem_of_getElem? (i := 27) rfl))) (g := (mkF m 29 #[.val (.ref a1), .val (.long q2), .second, .val (.int ((16 : Int32) - (1 : Int32))), .val (.int i)] [(.long (K x))])) rfl (hb hby dS_29) _ ?_
              show Steps p.tables e below (T11.setTop (mkF m 32 #[.val (.ref a1), .val (.long q2), .second, .val (.int ((16 : Int32) - (1 : Int32))), .val (.int i)] [(.long (-9223372036854775808 : Int64)), (.long (K x))])) _
              refine XS.lcmp X11.here hx rfl (hb hby dS_32) rfl ?_
              show Steps p.tables e below (T11.setTop (mkF m 33 #[.val (.ref a1), .val (.long q2), .second, .val (.int ((16 : Int32) - (1 : Int32))), .val (.int i)] [(.int (lcmpW (K x) (-9223372036854775808 : Int64)))])) _
              refine XS.ifNo X11.here hx rfl (hb hby dS_33) rfl ((if0 _ _).trans (feq (own_lcn hF)).1) ?_
              show Steps p.tables e below (T11.setTop (mkF m 36 #[.val (.ref a1), .val (.long q2), .second, .val (.int ((16 : Int32) - (1 : Int32))), .val (.int i)] [])) _
              refine XS.aloadN X11.here hx rfl (hb hby dS_36) rfl rfl ?_
              show Steps p.tables e below (T11.setTop (mkF m 37 #[.val (.ref a1), .val (.long q2), .second, .val (.int ((16 : Int32) - (1 : Int32))), .val (.int i)] [(.ref a1)])) _
              refine st12 _ ?_
              show Steps p.tables e below (T12.setTop (mkF m 40 #[.val (.ref a1), .val (.long q2), .second, .val (.int ((16 : Int32) - (1 : Int32))), .val (.int i)] [(.ref sl)])) _
              refine XS.iconst X12.here hx rfl (hb hby dS_40) ?_
              show Steps p.tables e below (T12.setTop (mkF m 41 #[.val (.ref a1), .val (.long q2), .second, .val (.int ((16 : Int32) - (1 : Int32))), .val (.int i)] [(.int (2 : Int32)), (.ref sl)])) _
              refine XS.iload X12.here hx rfl (hb hby dS_41) rfl ?_
              show Steps p.tables e below (T12.setTop (mkF m 43 #[.val (.ref a1), .val (.long q2), .second, .val (.int ((16 : Int32) - (1 : Int32))), .val (.int i)] [(.int i), (.int (2 : Int32)), (.ref sl)])) _
              refine XS.imul X12.here hx rfl (hb hby dS_43) rfl ?_
              show Steps p.tables e below (T12.setTop (mkF m 44 #[.val (.ref a1), .val (.long q2), .second, .val (.int ((16 : Int32) - (1 : Int32))), .val (.int i)] [(.int ((2 : Int32) * i)), (.ref sl)])) _
              refine oLdJ X12 hx hZ e12 A1 (k := (2 * x)) (own_dbl hi (by omega)) (by omega) (v := (K x)) (own_kv_k K V x) (g := (mkF m 44 #[.val (.ref a1), .val (.long q2), .second, .val (.int ((16 : Int32) - (1 : Int32))), .val (.int i)] [(.int ((2 : Int32) * i)), (.ref sl)])) rfl rfl (hb hby dS_44) _ ?_
              show Steps p.tables e below (T12.setTop (mkF m 45 #[.val (.ref a1), .val (.long q2), .second, .val (.int ((16 : Int32) - (1 : Int32))), .val (.int i)] [(.long (K x))])) _
              refine XS.lloadN X12.here hx rfl (hb hby dS_45) rfl ?_
              show Steps p.tables e below (T12.setTop (mkF m 46 #[.val (.ref a1), .val (.long q2), .second, .val (.int ((16 : Int32) - (1 : Int32))), .val (.int i)] [(.long q2), (.long (K x))])) _
              refine XS.lcmp X12.here hx rfl (hb hby dS_46) rfl ?_
              show Steps p.tables e below (T12.setTop (mkF m 47 #[.val (.ref a1), .val (.long q2), .second, .val (.int ((16 : Int32) - (1 : Int32))), .val (.int i)] [(.int (lcmpW (K x) q2))])) _
              refine XS.ifYes X12.here hx rfl (pc0 := 47) (pc' := 61) rfl (hb hby dS_47) rfl ((if0 _ _).trans (teq (own_lc hQ)).1) (by decide) (by decide) ?_
              show Steps p.tables e below (T12.setTop (mkF m 61 #[.val (.ref a1), .val (.long q2), .second, .val (.int ((16 : Int32) - (1 : Int32))), .val (.int i)] [])) _
              exact k_)
          have hsx : x = own_slot K q2 := by rw [← hf]; exact (own_f_stopAt (Or.inr hQ)).symm
          exact ⟨T12, i, X12, e12, by rw [← hsx]; exact hi, pre13⟩
        ·
          obtain ⟨T14, X14, e14, st14⟩ := getF X0 hx hZ hown (host := "") (Or.inl (hw _ (List.mem_of_getElem? (i := 19) rfl))) Via.refl e0 F1 (g := (mkF m 21 #[.val (.ref a1), .val (.long q2), .second, .val (.int ((16 : Int32) - (1 : Int32))), .val (.int i)] [(.ref a1)])) rfl rfl (hb hby dS_21)
          obtain ⟨T15, X15, e15, st15⟩ := getF X14 hx hZ hown (host := "") (Or.inl (hw _ (List.mem_of_getElem? (i := 19) rfl))) Via.refl e14 F1 (g := (mkF m 37 #[.val (.ref a1), .val (.long q2), .second, .val (.int ((16 : Int32) - (1 : Int32))), .val (.int i)] [(.ref a1)])) rfl rfl (hb hby dS_37)
          have pre16 : ∀ t_, Steps p.tables e below (T15.setTop (mkF m 20 #[.val (.ref a1), .val (.long q2), .second, .val (.int ((16 : Int32) - (1 : Int32))), .val (.int ((i + (1 : Int32)) &&& ((16 : Int32) - (1 : Int32))))] [])) t_ → Steps p.tables e below (T0.setTop (mkF m 20 #[.val (.ref a1), .val (.long q2), .second, .val (.int ((16 : Int32) - (1 : Int32))), .val (.int i)] [])) t_ := fun t_ k_ => (by
              refine XS.aloadN X0.here hx rfl (hb hby dS_20) rfl rfl ?_
              show Steps p.tables e below (T0.setTop (mkF m 21 #[.val (.ref a1), .val (.long q2), .second, .val (.int ((16 : Int32) - (1 : Int32))), .val (.int i)] [(.ref a1)])) _
              refine st14 _ ?_
              show Steps p.tables e below (T14.setTop (mkF m 24 #[.val (.ref a1), .val (.long q2), .second, .val (.int ((16 : Int32) - (1 : Int32))), .val (.int i)] [(.ref sl)])) _
              refine XS.iconst X14.here hx rfl (hb hby dS_24) ?_
              show Steps p.tables e below (T14.setTop (mkF m 25 #[.val (.ref a1), .val (.long q2), .second, .val (.int ((16 : Int32) - (1 : Int32))), .val (.int i)] [(.int (2 : Int32)), (.ref sl)])) _
              refine XS.iload X14.here hx rfl (hb hby dS_25) rfl ?_
              show Steps p.tables e below (T14.setTop (mkF m 27 #[.val (.ref a1), .val (.long q2), .second, .val (.int ((16 : Int32) - (1 : Int32))), .val (.int i)] [(.int i), (.int (2 : Int32)), (.ref sl)])) _
              refine XS.imul X14.here hx rfl (hb hby dS_27) rfl ?_
              show Steps p.tables e below (T14.setTop (mkF m 28 #[.val (.ref a1), .val (.long q2), .second, .val (.int ((16 : Int32) - (1 : Int32))), .val (.int i)] [(.int ((2 : Int32) * i)), (.ref sl)])) _
              refine oLdJ X14 hx hZ e14 A1 (k := (2 * x)) (own_dbl hi (by omega)) (by omega) (v := (K x)) (own_kv_k K V x) (g := (mkF m 28 #[.val (.ref a1), .val (.long q2), .second, .val (.int ((16 : Int32) - (1 : Int32))), .val (.int i)] [(.int ((2 : Int32) * i)), (.ref sl)])) rfl rfl (hb hby dS_28) _ ?_
              show Steps p.tables e below (T14.setTop (mkF m 29 #[.val (.ref a1), .val (.long q2), .second, .val (.int ((16 : Int32) - (1 : Int32))), .val (.int i)] [(.long (K x))])) _
              refine X14.ldc2Long hx hown (mvT hZ (hw _ (List.mem_of_getElem? (i := 27) rfl))) (g := (mkF m 29 #[.val (.ref a1), .val (.long q2), .second, .val (.int ((16 : Int32) - (1 : Int32))), .val (.int i)] [(.long (K x))])) rfl (hb hby dS_29) _ ?_
              show Steps p.tables e below (T14.setTop (mkF m 32 #[.val (.ref a1), .val (.long q2), .second, .val (.int ((16 : Int32) - (1 : Int32))), .val (.int i)] [(.long (-9223372036854775808 : Int64)), (.long (K x))])) _
              refine XS.lcmp X14.here hx rfl (hb hby dS_32) rfl ?_
              show Steps p.tables e below (T14.setTop (mkF m 33 #[.val (.ref a1), .val (.long q2), .second, .val (.int ((16 : Int32) - (1 : Int32))), .val (.int i)] [(.int (lcmpW (K x) (-9223372036854775808 : Int64)))])) _
              refine XS.ifNo X14.here hx rfl (hb hby dS_33) rfl ((if0 _ _).trans (feq (own_lcn hF)).1) ?_
              show Steps p.tables e below (T14.setTop (mkF m 36 #[.val (.ref a1), .val (.long q2), .second, .val (.int ((16 : Int32) - (1 : Int32))), .val (.int i)] [])) _
              refine XS.aloadN X14.here hx rfl (hb hby dS_36) rfl rfl ?_
              show Steps p.tables e below (T14.setTop (mkF m 37 #[.val (.ref a1), .val (.long q2), .second, .val (.int ((16 : Int32) - (1 : Int32))), .val (.int i)] [(.ref a1)])) _
              refine st15 _ ?_
              show Steps p.tables e below (T15.setTop (mkF m 40 #[.val (.ref a1), .val (.long q2), .second, .val (.int ((16 : Int32) - (1 : Int32))), .val (.int i)] [(.ref sl)])) _
              refine XS.iconst X15.here hx rfl (hb hby dS_40) ?_
              show Steps p.tables e below (T15.setTop (mkF m 41 #[.val (.ref a1), .val (.long q2), .second, .val (.int ((16 : Int32) - (1 : Int32))), .val (.int i)] [(.int (2 : Int32)), (.ref sl)])) _
              refine XS.iload X15.here hx rfl (hb hby dS_41) rfl ?_
              show Steps p.tables e below (T15.setTop (mkF m 43 #[.val (.ref a1), .val (.long q2), .second, .val (.int ((16 : Int32) - (1 : Int32))), .val (.int i)] [(.int i), (.int (2 : Int32)), (.ref sl)])) _
              refine XS.imul X15.here hx rfl (hb hby dS_43) rfl ?_
              show Steps p.tables e below (T15.setTop (mkF m 44 #[.val (.ref a1), .val (.long q2), .second, .val (.int ((16 : Int32) - (1 : Int32))), .val (.int i)] [(.int ((2 : Int32) * i)), (.ref sl)])) _
              refine oLdJ X15 hx hZ e15 A1 (k := (2 * x)) (own_dbl hi (by omega)) (by omega) (v := (K x)) (own_kv_k K V x) (g := (mkF m 44 #[.val (.ref a1), .val (.long q2), .second, .val (.int ((16 : Int32) - (1 : Int32))), .val (.int i)] [(.int ((2 : Int32) * i)), (.ref sl)])) rfl rfl (hb hby dS_44) _ ?_
              show Steps p.tables e below (T15.setTop (mkF m 45 #[.val (.ref a1), .val (.long q2), .second, .val (.int ((16 : Int32) - (1 : Int32))), .val (.int i)] [(.long (K x))])) _
              refine XS.lloadN X15.here hx rfl (hb hby dS_45) rfl ?_
              show Steps p.tables e below (T15.setTop (mkF m 46 #[.val (.ref a1), .val (.long q2), .second, .val (.int ((16 : Int32) - (1 : Int32))), .val (.int i)] [(.long q2), (.long (K x))])) _
              refine XS.lcmp X15.here hx rfl (hb hby dS_46) rfl ?_
              show Steps p.tables e below (T15.setTop (mkF m 47 #[.val (.ref a1), .val (.long q2), .second, .val (.int ((16 : Int32) - (1 : Int32))), .val (.int i)] [(.int (lcmpW (K x) q2))])) _
              refine XS.ifNo X15.here hx rfl (hb hby dS_47) rfl ((if0 _ _).trans (feq (own_lcn hQ)).1) ?_
              show Steps p.tables e below (T15.setTop (mkF m 50 #[.val (.ref a1), .val (.long q2), .second, .val (.int ((16 : Int32) - (1 : Int32))), .val (.int i)] [])) _
              refine XS.iload X15.here hx rfl (hb hby dS_50) rfl ?_
              show Steps p.tables e below (T15.setTop (mkF m 52 #[.val (.ref a1), .val (.long q2), .second, .val (.int ((16 : Int32) - (1 : Int32))), .val (.int i)] [(.int i)])) _
              refine XS.iconst X15.here hx rfl (hb hby dS_52) ?_
              show Steps p.tables e below (T15.setTop (mkF m 53 #[.val (.ref a1), .val (.long q2), .second, .val (.int ((16 : Int32) - (1 : Int32))), .val (.int i)] [(.int (1 : Int32)), (.int i)])) _
              refine XS.iadd X15.here hx rfl (hb hby dS_53) rfl ?_
              show Steps p.tables e below (T15.setTop (mkF m 54 #[.val (.ref a1), .val (.long q2), .second, .val (.int ((16 : Int32) - (1 : Int32))), .val (.int i)] [(.int (i + (1 : Int32)))])) _
              refine XS.iloadN X15.here hx rfl (hb hby dS_54) rfl ?_
              show Steps p.tables e below (T15.setTop (mkF m 55 #[.val (.ref a1), .val (.long q2), .second, .val (.int ((16 : Int32) - (1 : Int32))), .val (.int i)] [(.int ((16 : Int32) - (1 : Int32))), (.int (i + (1 : Int32)))])) _
              refine XS.iand X15.here hx rfl (hb hby dS_55) rfl ?_
              show Steps p.tables e below (T15.setTop (mkF m 56 #[.val (.ref a1), .val (.long q2), .second, .val (.int ((16 : Int32) - (1 : Int32))), .val (.int i)] [(.int ((i + (1 : Int32)) &&& ((16 : Int32) - (1 : Int32))))])) _
              refine XS.istore X15.here hx rfl (hb hby dS_56) rfl (l' := #[.val (.ref a1), .val (.long q2), .second, .val (.int ((16 : Int32) - (1 : Int32))), .val (.int ((i + (1 : Int32)) &&& ((16 : Int32) - (1 : Int32))))]) rfl ?_
              show Steps p.tables e below (T15.setTop (mkF m 58 #[.val (.ref a1), .val (.long q2), .second, .val (.int ((16 : Int32) - (1 : Int32))), .val (.int ((i + (1 : Int32)) &&& ((16 : Int32) - (1 : Int32))))] [])) _
              refine XS.goto X15.here hx rfl (pc0 := 58) (pc' := 20) rfl (hb hby dS_58) (by decide) (by decide) ?_
              show Steps p.tables e below (T15.setTop (mkF m 20 #[.val (.ref a1), .val (.long q2), .second, .val (.int ((16 : Int32) - (1 : Int32))), .val (.int ((i + (1 : Int32)) &&& ((16 : Int32) - (1 : Int32))))] [])) _
              exact k_)
          obtain ⟨T', i', X', e', r', st'⟩ := ih ((x + 1) % 16) T15 ((i + (1 : Int32)) &&& ((16 : Int32) - (1 : Int32))) (by omega) (own_next hi hx16) (by rw [← hf, own_f_go (fun z => z.elim hF hQ)]) X15 e15
          exact ⟨T', i', X', e', r', fun t k => pre16 t (st' t k)⟩
  obtain ⟨T', i', X', e', r', st'⟩ := loop 16 (own_h q2) T2 ((((q2 * (-7046029254386353131 : Int64)).toUInt64 >>> ((60 : Int32) &&& 0x3f).toInt64.toUInt64).toInt64).toInt32) (own_h_lt q2) (own_hash q2) rfl X2 e2
  have preL : ∀ t, Steps p.tables e below (T'.setTop (mkF m 61 #[.val (.ref a1), .val (.long q2), .second, .val (.int ((16 : Int32) - (1 : Int32))), .val (.int i')] [])) t → Steps p.tables e below (s₁.setTop (entryFrame m #[(.ref a1), (.long q2)] 5)) t := fun t k => pre3 t (st' t k)
  have hlt := own_slot_lt K q2
  have pre17 : ∀ t_, Steps p.tables e below (T'.setTop (mkF m 65 #[.val (.ref a1), .val (.long q2), .second, .val (.int ((16 : Int32) - (1 : Int32))), .val (.int i')] [(.int ((2 : Int32) * i'))])) t_ → Steps p.tables e below (s₁.setTop (entryFrame m #[(.ref a1), (.long q2)] 5)) t_ := fun t_ k_ => preL t_ (by
      refine XS.iconst X'.here hx rfl (hb hby dS_61) ?_
      show Steps p.tables e below (T'.setTop (mkF m 62 #[.val (.ref a1), .val (.long q2), .second, .val (.int ((16 : Int32) - (1 : Int32))), .val (.int i')] [(.int (2 : Int32))])) _
      refine XS.iload X'.here hx rfl (hb hby dS_62) rfl ?_
      show Steps p.tables e below (T'.setTop (mkF m 64 #[.val (.ref a1), .val (.long q2), .second, .val (.int ((16 : Int32) - (1 : Int32))), .val (.int i')] [(.int i'), (.int (2 : Int32))])) _
      refine XS.imul X'.here hx rfl (hb hby dS_64) rfl ?_
      show Steps p.tables e below (T'.setTop (mkF m 65 #[.val (.ref a1), .val (.long q2), .second, .val (.int ((16 : Int32) - (1 : Int32))), .val (.int i')] [(.int ((2 : Int32) * i'))])) _
      exact k_)
  obtain ⟨fs, hr, hrun, hended, hW, hsame⟩ := X'.leave (v := some (.int ((2 : Int32) * i'))) (fun h => by rw [Bd.returns] at h; cases h)
  refine ⟨_, _, pre17 _ ?_, hrun, hended, _, _, rfl, ?_, ⟨_, rfl⟩, hW, hsame.mono (by decide) (by decide)⟩
  · exact retI X' hx Bd.returns (hb hby dS_65) hr
  · show QS Z a1 q2 sl K V h0 n0 _ T'.heap _
    rw [e']
    exact ⟨congrArg (fun z => some (Value.int z)) (own_inj32 (own_dbl r' (by omega)) (own_ofNat (by omega))), N0, rfl⟩
theorem dH_0 : decode prog_51_method_4_code 0 = .ok (.aload_n 0, 1) := by decide +kernel
theorem dH_1 : decode prog_51_method_4_code 1 = .ok (.lload_n 1, 1) := by decide +kernel
theorem dH_2 : decode prog_51_method_4_code 2 = .ok (.invokevirtual 44, 3) := by decide +kernel
theorem dH_5 : decode prog_51_method_4_code 5 = .ok (.istore 5, 2) := by decide +kernel
theorem dH_7 : decode prog_51_method_4_code 7 = .ok (.aload_n 0, 1) := by decide +kernel
theorem dH_8 : decode prog_51_method_4_code 8 = .ok (.getfield 9, 3) := by decide +kernel
theorem dH_11 : decode prog_51_method_4_code 11 = .ok (.iload 5, 2) := by decide +kernel
theorem dH_13 : decode prog_51_method_4_code 13 = .ok (.laload, 1) := by decide +kernel
theorem dH_14 : decode prog_51_method_4_code 14 = .ok (.ldc2_w 22, 3) := by decide +kernel
theorem dH_17 : decode prog_51_method_4_code 17 = .ok (.lcmp, 1) := by decide +kernel
theorem dH_18 : decode prog_51_method_4_code 18 = .ok (.ifCond .ne 7, 3) := by decide +kernel
theorem dH_21 : decode prog_51_method_4_code 21 = .ok (.lload_n 3, 1) := by decide +kernel
theorem dH_22 : decode prog_51_method_4_code 22 = .ok (.goto 12, 3) := by decide +kernel
theorem dH_25 : decode prog_51_method_4_code 25 = .ok (.aload_n 0, 1) := by decide +kernel
theorem dH_26 : decode prog_51_method_4_code 26 = .ok (.getfield 9, 3) := by decide +kernel
theorem dH_29 : decode prog_51_method_4_code 29 = .ok (.iload 5, 2) := by decide +kernel
theorem dH_31 : decode prog_51_method_4_code 31 = .ok (.iconst 1, 1) := by decide +kernel
theorem dH_32 : decode prog_51_method_4_code 32 = .ok (.iadd, 1) := by decide +kernel
theorem dH_33 : decode prog_51_method_4_code 33 = .ok (.laload, 1) := by decide +kernel
theorem dH_34 : decode prog_51_method_4_code 34 = .ok (.lreturn, 1) := by decide +kernel
theorem pdH_0 : parseMethodDescriptor "(J)I" = some ⟨[.long], some .int⟩ := by decide +kernel
theorem pnH : plainName "com/example/headwater/headwater/headdriven/LongMap" = true := by first | (simp [plainName, overriddenIn]; done) | decide +kernel
theorem efH (m : MethodId) (a1 : Addr) (q2 : Int64) (q3 : Int64) : entryFrame m #[(.ref a1), (.long q2), (.long q3)] 6 = mkF m 0 #[.val (.ref a1), .val (.long q2), .second, .val (.long q3), .second, .unset] [] := by first | (simp [entryFrame, mkF, argsToLocals, Value.category]; done) | rfl
def QH (Z : State) (a1 : Addr) (q2 q3 : Int64) (sl us : Addr) (M : Int64 → Option Int64) (n : Nat) (h0 : Heap) (n0 : Nat) (v : Option Value) (h : Heap) (L : List Loc) : Prop := v = some (.long ((M q2).getD q3)) ∧ Fr n0 L ∧ h = h0
set_option maxRecDepth 65536 in
set_option maxHeartbeats 40000000 in
theorem rmH (l : Launch) (Z : State) (a0 : Array Value) (hw : ∀ d ∈ tables_1, d.before a0 Z = true) (ws : List Jvm.Cond) (a1 : Addr) (q2 q3 : Int64) (sl us : Addr) (M : Int64 → Option Int64) (n : Nat) (h0 : Heap) (n0 : Nat) (Z0 : n0 ≤ h0.size) (LM0 : own_LM Z h0 a1 sl us M n) (hn : n < 16) (hq : q2 ≠ own_FREE) :
    MetFree l (⟨"com/example/headwater/headwater/headdriven/LongMap", "get", "(JJ)J"⟩ : MethodName) (head1 (Jvm.Cond.code (⟨"com/example/headwater/headwater/headdriven/LongMap", "get", "(JJ)J"⟩ : MethodName) prog_51_method_4_code 6 (some .long) :: ws) ({ frames := 1, cells := 0, slots := 0, locals := 16 } : Room)) (fun a U => a = #[(.ref a1), (.long q2), (.long q3)] ∧ Z.Warmed39 U.vm ∧ U.heap = h0) (fun _ _ _ _ _ => True) (fun _ U o U' => ∃ v L, o = .returned v ∧ QH Z a1 q2 q3 sl us M n h0 n0 v U'.heap L ∧ FrameEnd U o U' L ({ frames := 1, cells := 0, slots := 0, locals := 16 } : Room).cells ({ frames := 1, cells := 0, slots := 0, locals := 16 } : Room).slots) := by
  refine MetFree.of_bodySF (plainFor_of_name pnH) hisR ?_
  intro p e s m args below meth c s₁ Bd hml0 hP hK
  obtain ⟨rfl, hZ, hh⟩ := hP
  have hx := Bd.exec
  have hby := Bd.bytes
  have hml : c.maxLocals = 6 := hml0
  have hown : s.vm.findClass "com/example/headwater/headwater/headdriven/LongMap" = some m.cls := findClass_of_methodNamed Bd.named
  have hnm := (name_of_methodNamed Bd.named Bd.method).1
  have X0 : Stand p l e ({ frames := 1, cells := 0, slots := 0, locals := 16 } : Room) s m #[(.ref a1), (.long q2), (.long q3)] below meth c s₁ [] 0 0 := Stand.of_body Bd
  have e0 : s₁.heap = h0 := by rw [← hh, Bd.state]; rfl
  have N0 := Fr.nil n0
  have pre0 : ∀ t, Steps p.tables e below (s₁.setTop (mkF m 0 #[.val (.ref a1), .val (.long q2), .second, .val (.long q3), .second, .unset] [])) t → Steps p.tables e below (s₁.setTop (entryFrame m #[(.ref a1), (.long q2), (.long q3)] 6)) t := fun t k => castTop (efH m a1 q2 q3) k
  obtain ⟨E1, F1, F2, F3, F4, F5, ⟨K, V, A1, HM⟩, uu, B1⟩ := LM0
  have hlt := own_slot_lt K q2
  have hst := HM.stop (by omega) q2
  have hsi : (Int32.ofNat (2 * own_slot K q2)).toInt = ((2 * own_slot K q2 : Nat) : Int) := own_ofNat (by omega)
  by_cases hF : K (own_slot K q2) = own_FREE
  ·
    obtain ⟨cq1, q1, q1'⟩ := E1.cell
    obtain ⟨_, _, ⟨T1, L1, k1, n1⟩, -, X1, ⟨Lc1, hQ1, l1, y1, z1⟩, st1⟩ := X0.privateBack hx (y := (⟨"com/example/headwater/headwater/headdriven/LongMap", "_slot", "(J)I"⟩ : MethodName)) hown (mvT hZ (hw _ (List.mem_of_getElem? (i := 83) rfl))) (mvT hZ (hw _ (List.mem_of_getElem? (i := 84) rfl))) (own_sel (y := (⟨"com/example/headwater/headwater/headdriven/LongMap", "_slot", "(J)I"⟩ : MethodName)) hZ (hw _ (List.mem_of_getElem? (i := 12) rfl)) (hw _ (List.mem_of_getElem? (i := 84) rfl)) (hw _ (List.mem_of_getElem? (i := 85) rfl)) (by decide)) (Cond.privateMethod_at (mvP hZ (hw _ (List.mem_of_getElem? (i := 85) rfl)) (args := #[]))) (mvT hZ (hw _ (List.mem_of_getElem? (i := 86) rfl))) (by decide) (backOf (W := 0) (rmS l Z a0 hw [] a1 q2 sl K V h0 n0 Z0 F1 F4 F5 A1 hst) hZ (hw _ (List.mem_of_getElem? (i := 86) rfl)) (hw _ (List.mem_of_getElem? (i := 13) rfl)) (by decide) (by decide)) (g := (mkF m 2 #[.val (.ref a1), .val (.long q2), .second, .val (.long q3), .second, .unset] [(.long q2), (.ref a1)])) rfl (by rw [hml]; rfl) (Steps.refl _) (a := a1) (by rw [e0]; exact q1) q1' (argsL := [(.long q2)]) (rest := []) (lenOf pdH_0 rfl) rfl (by show 2 * 0 + _ ≤ _; exact Nat.le_of_eq rfl) (hb hby dH_2) (fun _ _ => ⟨rfl, e0, (by decide : 0 + 0 ≤ _), (by decide : 0 + 0 ≤ _)⟩)
    dsimp only [Pt.U, Pt.locs, Pt.cells, Pt.slots] at X1 l1 y1 z1 st1 hQ1
    subst l1 y1 z1
    obtain ⟨rfl, N1q, e1⟩ := hQ1
    have N1 := Fr.app N0 N1q
    obtain ⟨T2, X2, e2, st2⟩ := getF X1 hx hZ hown (host := "") (Or.inl (hw _ (List.mem_of_getElem? (i := 19) rfl))) Via.refl e1 F1 (g := (mkF m 8 #[.val (.ref a1), .val (.long q2), .second, .val (.long q3), .second, .val (.int (Int32.ofNat (2 * own_slot K q2)))] [(.ref a1)])) rfl rfl (hb hby dH_8)
    have pre3 : ∀ t_, Steps p.tables e below (T2.setTop (mkF m 34 #[.val (.ref a1), .val (.long q2), .second, .val (.long q3), .second, .val (.int (Int32.ofNat (2 * own_slot K q2)))] [(.long q3)])) t_ → Steps p.tables e below (s₁.setTop (entryFrame m #[(.ref a1), (.long q2), (.long q3)] 6)) t_ := fun t_ k_ => pre0 t_ (by
        refine XS.aloadN X0.here hx rfl (hb hby dH_0) rfl rfl ?_
        show Steps p.tables e below (s₁.setTop (mkF m 1 #[.val (.ref a1), .val (.long q2), .second, .val (.long q3), .second, .unset] [(.ref a1)])) _
        refine XS.lloadN X0.here hx rfl (hb hby dH_1) rfl ?_
        show Steps p.tables e below (s₁.setTop (mkF m 2 #[.val (.ref a1), .val (.long q2), .second, .val (.long q3), .second, .unset] [(.long q2), (.ref a1)])) _
        refine st1.trans ?_
        show Steps p.tables e below (T1.setTop (mkF m 5 #[.val (.ref a1), .val (.long q2), .second, .val (.long q3), .second, .unset] [(.int (Int32.ofNat (2 * own_slot K q2)))])) _
        refine XS.istore X1.here hx rfl (hb hby dH_5) rfl (l' := #[.val (.ref a1), .val (.long q2), .second, .val (.long q3), .second, .val (.int (Int32.ofNat (2 * own_slot K q2)))]) rfl ?_
        show Steps p.tables e below (T1.setTop (mkF m 7 #[.val (.ref a1), .val (.long q2), .second, .val (.long q3), .second, .val (.int (Int32.ofNat (2 * own_slot K q2)))] [])) _
        refine XS.aloadN X1.here hx rfl (hb hby dH_7) rfl rfl ?_
        show Steps p.tables e below (T1.setTop (mkF m 8 #[.val (.ref a1), .val (.long q2), .second, .val (.long q3), .second, .val (.int (Int32.ofNat (2 * own_slot K q2)))] [(.ref a1)])) _
        refine st2 _ ?_
        show Steps p.tables e below (T2.setTop (mkF m 11 #[.val (.ref a1), .val (.long q2), .second, .val (.long q3), .second, .val (.int (Int32.ofNat (2 * own_slot K q2)))] [(.ref sl)])) _
        refine XS.iload X2.here hx rfl (hb hby dH_11) rfl ?_
        show Steps p.tables e below (T2.setTop (mkF m 13 #[.val (.ref a1), .val (.long q2), .second, .val (.long q3), .second, .val (.int (Int32.ofNat (2 * own_slot K q2)))] [(.int (Int32.ofNat (2 * own_slot K q2))), (.ref sl)])) _
        refine oLdJ X2 hx hZ e2 A1 (k := (2 * own_slot K q2)) hsi (by omega) (v := (K (own_slot K q2))) (own_kv_k K V _) (g := (mkF m 13 #[.val (.ref a1), .val (.long q2), .second, .val (.long q3), .second, .val (.int (Int32.ofNat (2 * own_slot K q2)))] [(.int (Int32.ofNat (2 * own_slot K q2))), (.ref sl)])) rfl rfl (hb hby dH_13) _ ?_
        show Steps p.tables e below (T2.setTop (mkF m 14 #[.val (.ref a1), .val (.long q2), .second, .val (.long q3), .second, .val (.int (Int32.ofNat (2 * own_slot K q2)))] [(.long (K (own_slot K q2)))])) _
        refine X2.ldc2Long hx hown (mvT hZ (hw _ (List.mem_of_getElem? (i := 27) rfl))) (g := (mkF m 14 #[.val (.ref a1), .val (.long q2), .second, .val (.long q3), .second, .val (.int (Int32.ofNat (2 * own_slot K q2)))] [(.long (K (own_slot K q2)))])) rfl (hb hby dH_14) _ ?_
        show Steps p.tables e below (T2.setTop (mkF m 17 #[.val (.ref a1), .val (.long q2), .second, .val (.long q3), .second, .val (.int (Int32.ofNat (2 * own_slot K q2)))] [(.long (-9223372036854775808 : Int64)), (.long (K (own_slot K q2)))])) _
        refine XS.lcmp X2.here hx rfl (hb hby dH_17) rfl ?_
        show Steps p.tables e below (T2.setTop (mkF m 18 #[.val (.ref a1), .val (.long q2), .second, .val (.long q3), .second, .val (.int (Int32.ofNat (2 * own_slot K q2)))] [(.int (lcmpW (K (own_slot K q2)) (-9223372036854775808 : Int64)))])) _
        refine XS.ifNo X2.here hx rfl (hb hby dH_18) rfl ((if0 _ _).trans (teq (own_lc hF)).2) ?_
        show Steps p.tables e below (T2.setTop (mkF m 21 #[.val (.ref a1), .val (.long q2), .second, .val (.long q3), .second, .val (.int (Int32.ofNat (2 * own_slot K q2)))] [])) _
        refine XS.lloadN X2.here hx rfl (hb hby dH_21) rfl ?_
        show Steps p.tables e below (T2.setTop (mkF m 22 #[.val (.ref a1), .val (.long q2), .second, .val (.long q3), .second, .val (.int (Int32.ofNat (2 * own_slot K q2)))] [(.long q3)])) _
        refine XS.goto X2.here hx rfl (pc0 := 22) (pc' := 34) rfl (hb hby dH_22) (by decide) (by decide) ?_
        show Steps p.tables e below (T2.setTop (mkF m 34 #[.val (.ref a1), .val (.long q2), .second, .val (.long q3), .second, .val (.int (Int32.ofNat (2 * own_slot K q2)))] [(.long q3)])) _
        exact k_)
    obtain ⟨fs, hr, hrun, hended, hW, hsame⟩ := X2.leave (v := some (.long q3)) (fun h => by rw [Bd.returns] at h; cases h)
    refine ⟨_, _, pre3 _ ?_, hrun, hended, _, _, rfl, ?_, ⟨_, rfl⟩, hW, hsame.mono (by decide) (by decide)⟩
    · exact X2.lreturnOut hx Bd.returns (hb hby dH_34) hr
    · show QH Z a1 q2 q3 sl us M n h0 n0 _ T2.heap _
      rw [e2]
      exact ⟨by rw [HM.absent hq hF]; rfl, N1, rfl⟩
  ·
    obtain ⟨cq4, q4, q4'⟩ := E1.cell
    obtain ⟨_, _, ⟨T4, L4, k4, n4⟩, -, X4, ⟨Lc4, hQ4, l4, y4, z4⟩, st4⟩ := X0.privateBack hx (y := (⟨"com/example/headwater/headwater/headdriven/LongMap", "_slot", "(J)I"⟩ : MethodName)) hown (mvT hZ (hw _ (List.mem_of_getElem? (i := 83) rfl))) (mvT hZ (hw _ (List.mem_of_getElem? (i := 84) rfl))) (own_sel (y := (⟨"com/example/headwater/headwater/headdriven/LongMap", "_slot", "(J)I"⟩ : MethodName)) hZ (hw _ (List.mem_of_getElem? (i := 12) rfl)) (hw _ (List.mem_of_getElem? (i := 84) rfl)) (hw _ (List.mem_of_getElem? (i := 85) rfl)) (by decide)) (Cond.privateMethod_at (mvP hZ (hw _ (List.mem_of_getElem? (i := 85) rfl)) (args := #[]))) (mvT hZ (hw _ (List.mem_of_getElem? (i := 86) rfl))) (by decide) (backOf (W := 0) (rmS l Z a0 hw [] a1 q2 sl K V h0 n0 Z0 F1 F4 F5 A1 hst) hZ (hw _ (List.mem_of_getElem? (i := 86) rfl)) (hw _ (List.mem_of_getElem? (i := 13) rfl)) (by decide) (by decide)) (g := (mkF m 2 #[.val (.ref a1), .val (.long q2), .second, .val (.long q3), .second, .unset] [(.long q2), (.ref a1)])) rfl (by rw [hml]; rfl) (Steps.refl _) (a := a1) (by rw [e0]; exact q4) q4' (argsL := [(.long q2)]) (rest := []) (lenOf pdH_0 rfl) rfl (by show 2 * 0 + _ ≤ _; exact Nat.le_of_eq rfl) (hb hby dH_2) (fun _ _ => ⟨rfl, e0, (by decide : 0 + 0 ≤ _), (by decide : 0 + 0 ≤ _)⟩)
    dsimp only [Pt.U, Pt.locs, Pt.cells, Pt.slots] at X4 l4 y4 z4 st4 hQ4
    subst l4 y4 z4
    obtain ⟨rfl, N4q, e4⟩ := hQ4
    have N4 := Fr.app N0 N4q
    obtain ⟨T5, X5, e5, st5⟩ := getF X4 hx hZ hown (host := "") (Or.inl (hw _ (List.mem_of_getElem? (i := 19) rfl))) Via.refl e4 F1 (g := (mkF m 8 #[.val (.ref a1), .val (.long q2), .second, .val (.long q3), .second, .val (.int (Int32.ofNat (2 * own_slot K q2)))] [(.ref a1)])) rfl rfl (hb hby dH_8)
    obtain ⟨T6, X6, e6, st6⟩ := getF X5 hx hZ hown (host := "") (Or.inl (hw _ (List.mem_of_getElem? (i := 19) rfl))) Via.refl e5 F1 (g := (mkF m 26 #[.val (.ref a1), .val (.long q2), .second, .val (.long q3), .second, .val (.int (Int32.ofNat (2 * own_slot K q2)))] [(.ref a1)])) rfl rfl (hb hby dH_26)
    have pre7 : ∀ t_, Steps p.tables e below (T6.setTop (mkF m 34 #[.val (.ref a1), .val (.long q2), .second, .val (.long q3), .second, .val (.int (Int32.ofNat (2 * own_slot K q2)))] [(.long (V (own_slot K q2)))])) t_ → Steps p.tables e below (s₁.setTop (entryFrame m #[(.ref a1), (.long q2), (.long q3)] 6)) t_ := fun t_ k_ => pre0 t_ (by
        refine XS.aloadN X0.here hx rfl (hb hby dH_0) rfl rfl ?_
        show Steps p.tables e below (s₁.setTop (mkF m 1 #[.val (.ref a1), .val (.long q2), .second, .val (.long q3), .second, .unset] [(.ref a1)])) _
        refine XS.lloadN X0.here hx rfl (hb hby dH_1) rfl ?_
        show Steps p.tables e below (s₁.setTop (mkF m 2 #[.val (.ref a1), .val (.long q2), .second, .val (.long q3), .second, .unset] [(.long q2), (.ref a1)])) _
        refine st4.trans ?_
        show Steps p.tables e below (T4.setTop (mkF m 5 #[.val (.ref a1), .val (.long q2), .second, .val (.long q3), .second, .unset] [(.int (Int32.ofNat (2 * own_slot K q2)))])) _
        refine XS.istore X4.here hx rfl (hb hby dH_5) rfl (l' := #[.val (.ref a1), .val (.long q2), .second, .val (.long q3), .second, .val (.int (Int32.ofNat (2 * own_slot K q2)))]) rfl ?_
        show Steps p.tables e below (T4.setTop (mkF m 7 #[.val (.ref a1), .val (.long q2), .second, .val (.long q3), .second, .val (.int (Int32.ofNat (2 * own_slot K q2)))] [])) _
        refine XS.aloadN X4.here hx rfl (hb hby dH_7) rfl rfl ?_
        show Steps p.tables e below (T4.setTop (mkF m 8 #[.val (.ref a1), .val (.long q2), .second, .val (.long q3), .second, .val (.int (Int32.ofNat (2 * own_slot K q2)))] [(.ref a1)])) _
        refine st5 _ ?_
        show Steps p.tables e below (T5.setTop (mkF m 11 #[.val (.ref a1), .val (.long q2), .second, .val (.long q3), .second, .val (.int (Int32.ofNat (2 * own_slot K q2)))] [(.ref sl)])) _
        refine XS.iload X5.here hx rfl (hb hby dH_11) rfl ?_
        show Steps p.tables e below (T5.setTop (mkF m 13 #[.val (.ref a1), .val (.long q2), .second, .val (.long q3), .second, .val (.int (Int32.ofNat (2 * own_slot K q2)))] [(.int (Int32.ofNat (2 * own_slot K q2))), (.ref sl)])) _
        refine oLdJ X5 hx hZ e5 A1 (k := (2 * own_slot K q2)) hsi (by omega) (v := (K (own_slot K q2))) (own_kv_k K V _) (g := (mkF m 13 #[.val (.ref a1), .val (.long q2), .second, .val (.long q3), .second, .val (.int (Int32.ofNat (2 * own_slot K q2)))] [(.int (Int32.ofNat (2 * own_slot K q2))), (.ref sl)])) rfl rfl (hb hby dH_13) _ ?_
        show Steps p.tables e below (T5.setTop (mkF m 14 #[.val (.ref a1), .val (.long q2), .second, .val (.long q3), .second, .val (.int (Int32.ofNat (2 * own_slot K q2)))] [(.long (K (own_slot K q2)))])) _
        refine X5.ldc2Long hx hown (mvT hZ (hw _ (List.mem_of_getElem? (i := 27) rfl))) (g := (mkF m 14 #[.val (.ref a1), .val (.long q2), .second, .val (.long q3), .second, .val (.int (Int32.ofNat (2 * own_slot K q2)))] [(.long (K (own_slot K q2)))])) rfl (hb hby dH_14) _ ?_
        show Steps p.tables e below (T5.setTop (mkF m 17 #[.val (.ref a1), .val (.long q2), .second, .val (.long q3), .second, .val (.int (Int32.ofNat (2 * own_slot K q2)))] [(.long (-9223372036854775808 : Int64)), (.long (K (own_slot K q2)))])) _
        refine XS.lcmp X5.here hx rfl (hb hby dH_17) rfl ?_
        show Steps p.tables e below (T5.setTop (mkF m 18 #[.val (.ref a1), .val (.long q2), .second, .val (.long q3), .second, .val (.int (Int32.ofNat (2 * own_slot K q2)))] [(.int (lcmpW (K (own_slot K q2)) (-9223372036854775808 : Int64)))])) _
        refine XS.ifYes X5.here hx rfl (pc0 := 18) (pc' := 25) rfl (hb hby dH_18) rfl ((if0 _ _).trans (feq (own_lcn hF)).2) (by decide) (by decide) ?_
        show Steps p.tables e below (T5.setTop (mkF m 25 #[.val (.ref a1), .val (.long q2), .second, .val (.long q3), .second, .val (.int (Int32.ofNat (2 * own_slot K q2)))] [])) _
        refine XS.aloadN X5.here hx rfl (hb hby dH_25) rfl rfl ?_
        show Steps p.tables e below (T5.setTop (mkF m 26 #[.val (.ref a1), .val (.long q2), .second, .val (.long q3), .second, .val (.int (Int32.ofNat (2 * own_slot K q2)))] [(.ref a1)])) _
        refine st6 _ ?_
        show Steps p.tables e below (T6.setTop (mkF m 29 #[.val (.ref a1), .val (.long q2), .second, .val (.long q3), .second, .val (.int (Int32.ofNat (2 * own_slot K q2)))] [(.ref sl)])) _
        refine XS.iload X6.here hx rfl (hb hby dH_29) rfl ?_
        show Steps p.tables e below (T6.setTop (mkF m 31 #[.val (.ref a1), .val (.long q2), .second, .val (.long q3), .second, .val (.int (Int32.ofNat (2 * own_slot K q2)))] [(.int (Int32.ofNat (2 * own_slot K q2))), (.ref sl)])) _
        refine XS.iconst X6.here hx rfl (hb hby dH_31) ?_
        show Steps p.tables e below (T6.setTop (mkF m 32 #[.val (.ref a1), .val (.long q2), .second, .val (.long q3), .second, .val (.int (Int32.ofNat (2 * own_slot K q2)))] [(.int (1 : Int32)), (.int (Int32.ofNat (2 * own_slot K q2))), (.ref sl)])) _
        refine XS.iadd X6.here hx rfl (hb hby dH_32) rfl ?_
        show Steps p.tables e below (T6.setTop (mkF m 33 #[.val (.ref a1), .val (.long q2), .second, .val (.long q3), .second, .val (.int (Int32.ofNat (2 * own_slot K q2)))] [(.int ((Int32.ofNat (2 * own_slot K q2)) + (1 : Int32))), (.ref sl)])) _
        refine oLdJ X6 hx hZ e6 A1 (k := (2 * own_slot K q2 + 1)) (own_addc (c := 1) rfl hsi (by omega) (by decide)) (by omega) (v := (V (own_slot K q2))) (own_kv_v K V _) (g := (mkF m 33 #[.val (.ref a1), .val (.long q2), .second, .val (.long q3), .second, .val (.int (Int32.ofNat (2 * own_slot K q2)))] [(.int ((Int32.ofNat (2 * own_slot K q2)) + (1 : Int32))), (.ref sl)])) rfl rfl (hb hby dH_33) _ ?_
        show Steps p.tables e below (T6.setTop (mkF m 34 #[.val (.ref a1), .val (.long q2), .second, .val (.long q3), .second, .val (.int (Int32.ofNat (2 * own_slot K q2)))] [(.long (V (own_slot K q2)))])) _
        exact k_)
    obtain ⟨fs, hr, hrun, hended, hW, hsame⟩ := X6.leave (v := some (.long (V (own_slot K q2)))) (fun h => by rw [Bd.returns] at h; cases h)
    refine ⟨_, _, pre7 _ ?_, hrun, hended, _, _, rfl, ?_, ⟨_, rfl⟩, hW, hsame.mono (by decide) (by decide)⟩
    · exact X6.lreturnOut hx Bd.returns (hb hby dH_34) hr
    · show QH Z a1 q2 q3 sl us M n h0 n0 _ T6.heap _
      rw [e6]
      exact ⟨by rw [HM.present hq hF]; rfl, N4, rfl⟩
theorem dH2_0 : decode prog_51_method_5_code 0 = .ok (.aload_n 0, 1) := by decide +kernel
theorem dH2_1 : decode prog_51_method_5_code 1 = .ok (.lload_n 1, 1) := by decide +kernel
theorem dH2_2 : decode prog_51_method_5_code 2 = .ok (.ldc2_w 47, 3) := by decide +kernel
theorem dH2_5 : decode prog_51_method_5_code 5 = .ok (.invokevirtual 49, 3) := by decide +kernel
theorem dH2_8 : decode prog_51_method_5_code 8 = .ok (.l2i, 1) := by decide +kernel
theorem dH2_9 : decode prog_51_method_5_code 9 = .ok (.ireturn, 1) := by decide +kernel
theorem pdH2_0 : parseMethodDescriptor "(JJ)J" = some ⟨[.long, .long], some .long⟩ := by decide +kernel
theorem pnH2 : plainName "com/example/headwater/headwater/headdriven/LongMap" = true := by first | (simp [plainName, overriddenIn]; done) | decide +kernel
theorem efH2 (m : MethodId) (a1 : Addr) (q2 : Int64) : entryFrame m #[(.ref a1), (.long q2)] 3 = mkF m 0 #[.val (.ref a1), .val (.long q2), .second] [] := by first | (simp [entryFrame, mkF, argsToLocals, Value.category]; done) | rfl
def QH2 (Z : State) (a1 : Addr) (q2 : Int64) (sl us : Addr) (M : Int64 → Option Int64) (n : Nat) (h0 : Heap) (n0 : Nat) (v : Option Value) (h : Heap) (L : List Loc) : Prop := v = some (.int ((M q2).getD (-1 : Int64)).toInt32) ∧ Fr n0 L ∧ h = h0
set_option maxRecDepth 65536 in
set_option maxHeartbeats 40000000 in
theorem rmH2 (l : Launch) (Z : State) (a0 : Array Value) (hw : ∀ d ∈ tables_1, d.before a0 Z = true) (ws : List Jvm.Cond) (a1 : Addr) (q2 : Int64) (sl us : Addr) (M : Int64 → Option Int64) (n : Nat) (h0 : Heap) (n0 : Nat) (Z0 : n0 ≤ h0.size) (LM0 : own_LM Z h0 a1 sl us M n) (hn : n < 16) (hq : q2 ≠ own_FREE) :
    MetFree l (⟨"com/example/headwater/headwater/headdriven/LongMap", "get", "(J)I"⟩ : MethodName) (head1 (Jvm.Cond.code (⟨"com/example/headwater/headwater/headdriven/LongMap", "get", "(J)I"⟩ : MethodName) prog_51_method_5_code 3 (some .int) :: ws) ({ frames := 2, cells := 0, slots := 0, locals := 33 } : Room)) (fun a U => a = #[(.ref a1), (.long q2)] ∧ Z.Warmed39 U.vm ∧ U.heap = h0) (fun _ _ _ _ _ => True) (fun _ U o U' => ∃ v L, o = .returned v ∧ QH2 Z a1 q2 sl us M n h0 n0 v U'.heap L ∧ FrameEnd U o U' L ({ frames := 2, cells := 0, slots := 0, locals := 33 } : Room).cells ({ frames := 2, cells := 0, slots := 0, locals := 33 } : Room).slots) := by
  refine MetFree.of_bodySF (plainFor_of_name pnH2) hisR ?_
  intro p e s m args below meth c s₁ Bd hml0 hP hK
  obtain ⟨rfl, hZ, hh⟩ := hP
  have hx := Bd.exec
  have hby := Bd.bytes
  have hml : c.maxLocals = 3 := hml0
  have hown : s.vm.findClass "com/example/headwater/headwater/headdriven/LongMap" = some m.cls := findClass_of_methodNamed Bd.named
  have hnm := (name_of_methodNamed Bd.named Bd.method).1
  have X0 : Stand p l e ({ frames := 2, cells := 0, slots := 0, locals := 33 } : Room) s m #[(.ref a1), (.long q2)] below meth c s₁ [] 0 0 := Stand.of_body Bd
  have e0 : s₁.heap = h0 := by rw [← hh, Bd.state]; rfl
  have N0 := Fr.nil n0
  have pre0 : ∀ t, Steps p.tables e below (s₁.setTop (mkF m 0 #[.val (.ref a1), .val (.long q2), .second] [])) t → Steps p.tables e below (s₁.setTop (entryFrame m #[(.ref a1), (.long q2)] 3)) t := fun t k => castTop (efH2 m a1 q2) k
  obtain ⟨cq1, kq1, q1a, q1b, q1c⟩ := isOf hZ e0 LM0.1
  obtain ⟨_, _, ⟨T1, L1, k1, n1⟩, -, X1, ⟨Lc1, hQ1, l1, y1, z1⟩, st1⟩ := X0.virtualBack hx (y := (⟨"com/example/headwater/headwater/headdriven/LongMap", "get", "(JJ)J"⟩ : MethodName)) (z := (⟨"com/example/headwater/headwater/headdriven/LongMap", "get", "(JJ)J"⟩ : MethodName)) hown (mvT hZ (hw _ (List.mem_of_getElem? (i := 78) rfl))) (mvT hZ (hw _ (List.mem_of_getElem? (i := 79) rfl))) (notFace_of_selects (args := #[]) (mvT hZ (hw _ (List.mem_of_getElem? (i := 81) rfl)))) (mvT hZ (hw _ (List.mem_of_getElem? (i := 81) rfl))) (mvT hZ (hw _ (List.mem_of_getElem? (i := 80) rfl))) (by decide) (backOf (W := 0) (rmH l Z a0 hw [] a1 q2 ((-1 : Int64)) sl us M n h0 n0 Z0 LM0 hn hq) hZ (hw _ (List.mem_of_getElem? (i := 82) rfl)) (hw _ (List.mem_of_getElem? (i := 13) rfl)) (by decide) (by decide)) q1a q1c (g := (mkF m 5 #[.val (.ref a1), .val (.long q2), .second] [(.long (-1 : Int64)), (.long q2), (.ref a1)])) rfl (by rw [hml]; rfl) (Steps.refl _) (argsL := [(.long q2), (.long (-1 : Int64))]) (rest := []) (lenOf pdH2_0 rfl) rfl (by show 2 * 0 + _ ≤ _; exact Nat.le_of_eq rfl) (hb hby dH2_5) (fun _ _ => ⟨rfl, e0, (by decide : 0 + 0 ≤ _), (by decide : 0 + 0 ≤ _)⟩)
  dsimp only [Pt.U, Pt.locs, Pt.cells, Pt.slots] at X1 l1 y1 z1 st1 hQ1
  subst l1 y1 z1
  obtain ⟨rfl, N1q, e1⟩ := hQ1
  have N1 := Fr.app N0 N1q
  have pre2 : ∀ t_, Steps p.tables e below (T1.setTop (mkF m 9 #[.val (.ref a1), .val (.long q2), .second] [(.int (((M q2).getD (-1 : Int64)).toInt32))])) t_ → Steps p.tables e below (s₁.setTop (entryFrame m #[(.ref a1), (.long q2)] 3)) t_ := fun t_ k_ => pre0 t_ (by
      refine XS.aloadN X0.here hx rfl (hb hby dH2_0) rfl rfl ?_
      show Steps p.tables e below (s₁.setTop (mkF m 1 #[.val (.ref a1), .val (.long q2), .second] [(.ref a1)])) _
      refine XS.lloadN X0.here hx rfl (hb hby dH2_1) rfl ?_
      show Steps p.tables e below (s₁.setTop (mkF m 2 #[.val (.ref a1), .val (.long q2), .second] [(.long q2), (.ref a1)])) _
      refine X0.ldc2Long hx hown (mvT hZ (hw _ (List.mem_of_getElem? (i := 77) rfl))) (g := (mkF m 2 #[.val (.ref a1), .val (.long q2), .second] [(.long q2), (.ref a1)])) rfl (hb hby dH2_2) _ ?_
      show Steps p.tables e below (s₁.setTop (mkF m 5 #[.val (.ref a1), .val (.long q2), .second] [(.long (-1 : Int64)), (.long q2), (.ref a1)])) _
      refine st1.trans ?_
      show Steps p.tables e below (T1.setTop (mkF m 8 #[.val (.ref a1), .val (.long q2), .second] [(.long ((M q2).getD (-1 : Int64)))])) _
      refine XS.l2i X1.here hx rfl (hb hby dH2_8) rfl ?_
      show Steps p.tables e below (T1.setTop (mkF m 9 #[.val (.ref a1), .val (.long q2), .second] [(.int (((M q2).getD (-1 : Int64)).toInt32))])) _
      exact k_)
  obtain ⟨fs, hr, hrun, hended, hW, hsame⟩ := X1.leave (v := some (.int (((M q2).getD (-1 : Int64)).toInt32))) (fun h => by rw [Bd.returns] at h; cases h)
  refine ⟨_, _, pre2 _ ?_, hrun, hended, _, _, rfl, ?_, ⟨_, rfl⟩, hW, hsame.mono (by decide) (by decide)⟩
  · exact retI X1 hx Bd.returns (hb hby dH2_9) hr
  · show QH2 Z a1 q2 sl us M n h0 n0 _ T1.heap _
    rw [e1]
    exact ⟨rfl, N1, rfl⟩
theorem dP_0 : decode prog_51_method_6_code 0 = .ok (.aload_n 0, 1) := by decide +kernel
theorem dP_1 : decode prog_51_method_6_code 1 = .ok (.lload_n 1, 1) := by decide +kernel
theorem dP_2 : decode prog_51_method_6_code 2 = .ok (.invokevirtual 44, 3) := by decide +kernel
theorem dP_5 : decode prog_51_method_6_code 5 = .ok (.istore 5, 2) := by decide +kernel
theorem dP_7 : decode prog_51_method_6_code 7 = .ok (.aload_n 0, 1) := by decide +kernel
theorem dP_8 : decode prog_51_method_6_code 8 = .ok (.getfield 9, 3) := by decide +kernel
theorem dP_11 : decode prog_51_method_6_code 11 = .ok (.iload 5, 2) := by decide +kernel
theorem dP_13 : decode prog_51_method_6_code 13 = .ok (.laload, 1) := by decide +kernel
theorem dP_14 : decode prog_51_method_6_code 14 = .ok (.ldc2_w 22, 3) := by decide +kernel
theorem dP_17 : decode prog_51_method_6_code 17 = .ok (.lcmp, 1) := by decide +kernel
theorem dP_18 : decode prog_51_method_6_code 18 = .ok (.ifCond .ne 53, 3) := by decide +kernel
theorem dP_21 : decode prog_51_method_6_code 21 = .ok (.aload_n 0, 1) := by decide +kernel
theorem dP_22 : decode prog_51_method_6_code 22 = .ok (.getfield 28, 3) := by decide +kernel
theorem dP_25 : decode prog_51_method_6_code 25 = .ok (.aload_n 0, 1) := by decide +kernel
theorem dP_26 : decode prog_51_method_6_code 26 = .ok (.getfield 32, 3) := by decide +kernel
theorem dP_29 : decode prog_51_method_6_code 29 = .ok (.iconst 2, 1) := by decide +kernel
theorem dP_30 : decode prog_51_method_6_code 30 = .ok (.idiv, 1) := by decide +kernel
theorem dP_31 : decode prog_51_method_6_code 31 = .ok (.if_icmp .ne 14, 3) := by decide +kernel
theorem dP_45 : decode prog_51_method_6_code 45 = .ok (.aload_n 0, 1) := by decide +kernel
theorem dP_46 : decode prog_51_method_6_code 46 = .ok (.getfield 9, 3) := by decide +kernel
theorem dP_49 : decode prog_51_method_6_code 49 = .ok (.iload 5, 2) := by decide +kernel
theorem dP_51 : decode prog_51_method_6_code 51 = .ok (.lload_n 1, 1) := by decide +kernel
theorem dP_52 : decode prog_51_method_6_code 52 = .ok (.lastore, 1) := by decide +kernel
theorem dP_53 : decode prog_51_method_6_code 53 = .ok (.aload_n 0, 1) := by decide +kernel
theorem dP_54 : decode prog_51_method_6_code 54 = .ok (.getfield 24, 3) := by decide +kernel
theorem dP_57 : decode prog_51_method_6_code 57 = .ok (.aload_n 0, 1) := by decide +kernel
theorem dP_58 : decode prog_51_method_6_code 58 = .ok (.dup, 1) := by decide +kernel
theorem dP_59 : decode prog_51_method_6_code 59 = .ok (.getfield 28, 3) := by decide +kernel
theorem dP_62 : decode prog_51_method_6_code 62 = .ok (.dup_x1, 1) := by decide +kernel
theorem dP_63 : decode prog_51_method_6_code 63 = .ok (.iconst 1, 1) := by decide +kernel
theorem dP_64 : decode prog_51_method_6_code 64 = .ok (.iadd, 1) := by decide +kernel
theorem dP_65 : decode prog_51_method_6_code 65 = .ok (.putfield 28, 3) := by decide +kernel
theorem dP_68 : decode prog_51_method_6_code 68 = .ok (.iload 5, 2) := by decide +kernel
theorem dP_70 : decode prog_51_method_6_code 70 = .ok (.iastore, 1) := by decide +kernel
theorem dP_71 : decode prog_51_method_6_code 71 = .ok (.aload_n 0, 1) := by decide +kernel
theorem dP_72 : decode prog_51_method_6_code 72 = .ok (.getfield 9, 3) := by decide +kernel
theorem dP_75 : decode prog_51_method_6_code 75 = .ok (.iload 5, 2) := by decide +kernel
theorem dP_77 : decode prog_51_method_6_code 77 = .ok (.iconst 1, 1) := by decide +kernel
theorem dP_78 : decode prog_51_method_6_code 78 = .ok (.iadd, 1) := by decide +kernel
theorem dP_79 : decode prog_51_method_6_code 79 = .ok (.lload_n 3, 1) := by decide +kernel
theorem dP_80 : decode prog_51_method_6_code 80 = .ok (.lastore, 1) := by decide +kernel
theorem dP_81 : decode prog_51_method_6_code 81 = .ok (.return_, 1) := by decide +kernel
theorem pdP_0 : parseMethodDescriptor "(J)I" = some ⟨[.long], some .int⟩ := by decide +kernel
theorem pnP : plainName "com/example/headwater/headwater/headdriven/LongMap" = true := by first | (simp [plainName, overriddenIn]; done) | decide +kernel
theorem efP (m : MethodId) (a1 : Addr) (q2 : Int64) (q3 : Int64) : entryFrame m #[(.ref a1), (.long q2), (.long q3)] 6 = mkF m 0 #[.val (.ref a1), .val (.long q2), .second, .val (.long q3), .second, .unset] [] := by first | (simp [entryFrame, mkF, argsToLocals, Value.category]; done) | rfl
def QP (Z : State) (a1 : Addr) (q2 q3 : Int64) (sl us : Addr) (M : Int64 → Option Int64) (n : Nat) (h0 : Heap) (n0 : Nat) (v : Option Value) (h : Heap) (L : List Loc) : Prop := v = none ∧ Fr n0 L ∧ Keep h0 h [a1, sl, us] ∧ own_LM Z h a1 sl us (own_mput M q2 q3) (own_nn M q2 n)
set_option maxRecDepth 65536 in
set_option maxHeartbeats 40000000 in
theorem rmP (l : Launch) (Z : State) (a0 : Array Value) (hw : ∀ d ∈ tables_1, d.before a0 Z = true) (ws : List Jvm.Cond) (a1 : Addr) (q2 q3 : Int64) (sl us : Addr) (M : Int64 → Option Int64) (n : Nat) (h0 : Heap) (n0 : Nat) (Z0 : n0 ≤ h0.size) (LM0 : own_LM Z h0 a1 sl us M n) (hn : n < 8) (hq : q2 ≠ own_FREE) (ne1 : a1 ≠ sl) (ne2 : a1 ≠ us) (ne3 : sl ≠ us) (g_a1 : n0 ≤ a1) (g_sl : n0 ≤ sl) (g_us : n0 ≤ us) :
    MetFree l (⟨"com/example/headwater/headwater/headdriven/LongMap", "put", "(JJ)V"⟩ : MethodName) (head1 (Jvm.Cond.code (⟨"com/example/headwater/headwater/headdriven/LongMap", "put", "(JJ)V"⟩ : MethodName) prog_51_method_6_code 6 none :: ws) ({ frames := 1, cells := 0, slots := 0, locals := 16 } : Room)) (fun a U => a = #[(.ref a1), (.long q2), (.long q3)] ∧ Z.Warmed39 U.vm ∧ U.heap = h0) (fun _ _ _ _ _ => True) (fun _ U o U' => ∃ v L, o = .returned v ∧ QP Z a1 q2 q3 sl us M n h0 n0 v U'.heap L ∧ FrameEnd U o U' L ({ frames := 1, cells := 0, slots := 0, locals := 16 } : Room).cells ({ frames := 1, cells := 0, slots := 0, locals := 16 } : Room).slots) := by
  refine MetFree.of_bodySF (plainFor_of_name pnP) hisR ?_
  intro p e s m args below meth c s₁ Bd hml0 hP hK
  obtain ⟨rfl, hZ, hh⟩ := hP
  have hx := Bd.exec
  have hby := Bd.bytes
  have hml : c.maxLocals = 6 := hml0
  have hown : s.vm.findClass "com/example/headwater/headwater/headdriven/LongMap" = some m.cls := findClass_of_methodNamed Bd.named
  have hnm := (name_of_methodNamed Bd.named Bd.method).1
  have X0 : Stand p l e ({ frames := 1, cells := 0, slots := 0, locals := 16 } : Room) s m #[(.ref a1), (.long q2), (.long q3)] below meth c s₁ [] 0 0 := Stand.of_body Bd
  have e0 : s₁.heap = h0 := by rw [← hh, Bd.state]; rfl
  have N0 := Fr.nil n0
  have pre0 : ∀ t, Steps p.tables e below (s₁.setTop (mkF m 0 #[.val (.ref a1), .val (.long q2), .second, .val (.long q3), .second, .unset] [])) t → Steps p.tables e below (s₁.setTop (entryFrame m #[(.ref a1), (.long q2), (.long q3)] 6)) t := fun t k => castTop (efP m a1 q2 q3) k
  obtain ⟨E1, F1, F2, F3, F4, F5, ⟨K, V, A1, HM⟩, uu, B1⟩ := LM0
  have hlt := own_slot_lt K q2
  have hst := HM.stop (by omega) q2
  have hsi : (Int32.ofNat (2 * own_slot K q2)).toInt = ((2 * own_slot K q2 : Nat) : Int) := own_ofNat (by omega)
  by_cases hF : K (own_slot K q2) = own_FREE
  ·
    obtain ⟨cq1, q1, q1'⟩ := E1.cell
    obtain ⟨_, _, ⟨T1, L1, k1, n1⟩, -, X1, ⟨Lc1, hQ1, l1, y1, z1⟩, st1⟩ := X0.privateBack hx (y := (⟨"com/example/headwater/headwater/headdriven/LongMap", "_slot", "(J)I"⟩ : MethodName)) hown (mvT hZ (hw _ (List.mem_of_getElem? (i := 83) rfl))) (mvT hZ (hw _ (List.mem_of_getElem? (i := 84) rfl))) (own_sel (y := (⟨"com/example/headwater/headwater/headdriven/LongMap", "_slot", "(J)I"⟩ : MethodName)) hZ (hw _ (List.mem_of_getElem? (i := 12) rfl)) (hw _ (List.mem_of_getElem? (i := 84) rfl)) (hw _ (List.mem_of_getElem? (i := 85) rfl)) (by decide)) (Cond.privateMethod_at (mvP hZ (hw _ (List.mem_of_getElem? (i := 85) rfl)) (args := #[]))) (mvT hZ (hw _ (List.mem_of_getElem? (i := 86) rfl))) (by decide) (backOf (W := 0) (rmS l Z a0 hw [] a1 q2 sl K V h0 n0 Z0 F1 F4 F5 A1 hst) hZ (hw _ (List.mem_of_getElem? (i := 86) rfl)) (hw _ (List.mem_of_getElem? (i := 13) rfl)) (by decide) (by decide)) (g := (mkF m 2 #[.val (.ref a1), .val (.long q2), .second, .val (.long q3), .second, .unset] [(.long q2), (.ref a1)])) rfl (by rw [hml]; rfl) (Steps.refl _) (a := a1) (by rw [e0]; exact q1) q1' (argsL := [(.long q2)]) (rest := []) (lenOf pdP_0 rfl) rfl (by show 2 * 0 + _ ≤ _; exact Nat.le_of_eq rfl) (hb hby dP_2) (fun _ _ => ⟨rfl, e0, (by decide : 0 + 0 ≤ _), (by decide : 0 + 0 ≤ _)⟩)
    dsimp only [Pt.U, Pt.locs, Pt.cells, Pt.slots] at X1 l1 y1 z1 st1 hQ1
    subst l1 y1 z1
    obtain ⟨rfl, N1q, e1⟩ := hQ1
    have N1 := Fr.app N0 N1q
    obtain ⟨T2, X2, e2, st2⟩ := getF X1 hx hZ hown (host := "") (Or.inl (hw _ (List.mem_of_getElem? (i := 19) rfl))) Via.refl e1 F1 (g := (mkF m 8 #[.val (.ref a1), .val (.long q2), .second, .val (.long q3), .second, .val (.int (Int32.ofNat (2 * own_slot K q2)))] [(.ref a1)])) rfl rfl (hb hby dP_8)
    obtain ⟨T3, X3, e3, st3⟩ := getF X2 hx hZ hown (host := "") (Or.inl (hw _ (List.mem_of_getElem? (i := 31) rfl))) Via.refl e2 F3 (g := (mkF m 22 #[.val (.ref a1), .val (.long q2), .second, .val (.long q3), .second, .val (.int (Int32.ofNat (2 * own_slot K q2)))] [(.ref a1)])) rfl rfl (hb hby dP_22)
    obtain ⟨T4, X4, e4, st4⟩ := getF X3 hx hZ hown (host := "") (Or.inl (hw _ (List.mem_of_getElem? (i := 33) rfl))) Via.refl e3 F4 (g := (mkF m 26 #[.val (.ref a1), .val (.long q2), .second, .val (.long q3), .second, .val (.int (Int32.ofNat (2 * own_slot K q2)))] [(.ref a1), (.int (Int32.ofNat n))])) rfl rfl (hb hby dP_26)
    obtain ⟨T5, X5, e5, st5⟩ := getF X4 hx hZ hown (host := "") (Or.inl (hw _ (List.mem_of_getElem? (i := 19) rfl))) Via.refl e4 F1 (g := (mkF m 46 #[.val (.ref a1), .val (.long q2), .second, .val (.long q3), .second, .val (.int (Int32.ofNat (2 * own_slot K q2)))] [(.ref a1)])) rfl rfl (hb hby dP_46)
    obtain ⟨T6, h6, X6, e6, W6, A6, st6⟩ := oStJ X5 hx hZ e5 A1 (k := (2 * own_slot K q2)) hsi (by omega) (g := (mkF m 52 #[.val (.ref a1), .val (.long q2), .second, .val (.long q3), .second, .val (.int (Int32.ofNat (2 * own_slot K q2)))] [(.long q2), (.int (Int32.ofNat (2 * own_slot K q2))), (.ref sl)])) rfl rfl (hb hby dP_52)
    have f7 := E1.wr W6
    have f8 := F1.other W6 (Or.inl ne1)
    have f9 := F2.other W6 (Or.inl ne1)
    have f10 := F3.other W6 (Or.inl ne1)
    have f11 := F4.other W6 (Or.inl ne1)
    have f12 := F5.other W6 (Or.inl ne1)
    have f13 := B1.other W6 (Ne.symm ne3)
    have N6 := Fr.snoc X6 N1 g_sl
    have K6 := (Keep.refl h0 [a1, sl, us]).wr W6 (Or.inl (List.mem_of_getElem? (i := 1) rfl))
    have Z6 : n0 ≤ h6.size := Nat.le_trans Z0 (Keep.of_wr W6).1
    have Ak := A6.congr (own_kv_uk K V (own_slot K q2) q2)
    obtain ⟨T14, X14, e14, st14⟩ := getF X6 hx hZ hown (host := "") (Or.inl (hw _ (List.mem_of_getElem? (i := 29) rfl))) Via.refl e6 f9 (g := (mkF m 54 #[.val (.ref a1), .val (.long q2), .second, .val (.long q3), .second, .val (.int (Int32.ofNat (2 * own_slot K q2)))] [(.ref a1)])) rfl rfl (hb hby dP_54)
    obtain ⟨T15, X15, e15, st15⟩ := getF X14 hx hZ hown (host := "") (Or.inl (hw _ (List.mem_of_getElem? (i := 31) rfl))) Via.refl e14 f10 (g := (mkF m 59 #[.val (.ref a1), .val (.long q2), .second, .val (.long q3), .second, .val (.int (Int32.ofNat (2 * own_slot K q2)))] [(.ref a1), (.ref a1), (.ref us)])) rfl rfl (hb hby dP_59)
    obtain ⟨T16, h16, X16, e16, W16, st16⟩ := putF X15 hx hZ hown (host := "") (Or.inl (hw _ (List.mem_of_getElem? (i := 31) rfl))) Via.refl e15 f10 f7 (Or.inl (hw _ (List.mem_of_getElem? (i := 32) rfl))) (hw _ (List.mem_of_getElem? (i := 12) rfl)) (ty := .int) (by decide) rfl rfl (g := (mkF m 65 #[.val (.ref a1), .val (.long q2), .second, .val (.long q3), .second, .val (.int (Int32.ofNat (2 * own_slot K q2)))] [(.int ((Int32.ofNat n) + (1 : Int32))), (.ref a1), (.int (Int32.ofNat n)), (.ref us)])) rfl rfl (hb hby dP_65)
    have Fw16 := f10.same W16
    have f17 := f7.wr W16
    have f18 := f8.other W16 (Or.inr (slot_ne (Or.inl (hw _ (List.mem_of_getElem? (i := 20) rfl))) (Or.inl (hw _ (List.mem_of_getElem? (i := 32) rfl))) (by decide) (t := (.array .long)) (t' := .int) (by decide) (by decide)))
    have f19 := f9.other W16 (Or.inr (slot_ne (Or.inl (hw _ (List.mem_of_getElem? (i := 30) rfl))) (Or.inl (hw _ (List.mem_of_getElem? (i := 32) rfl))) (by decide) (t := (.array .int)) (t' := .int) (by decide) (by decide)))
    have f20 := f11.other W16 (Or.inr (slot_ne (Or.inl (hw _ (List.mem_of_getElem? (i := 34) rfl))) (Or.inl (hw _ (List.mem_of_getElem? (i := 32) rfl))) (by decide) (t := .int) (t' := .int) (by decide) (by decide)))
    have f21 := f12.other W16 (Or.inr (slot_ne (Or.inl (hw _ (List.mem_of_getElem? (i := 45) rfl))) (Or.inl (hw _ (List.mem_of_getElem? (i := 32) rfl))) (by decide) (t := .int) (t' := .int) (by decide) (by decide)))
    have f22 := Ak.other W16 (Ne.symm ne1)
    have f23 := f13.other W16 (Ne.symm ne2)
    have N16 := Fr.snoc X16 N6 g_a1
    have K16 := K6.wr W16 (Or.inl (List.mem_of_getElem? (i := 0) rfl))
    have Z16 : n0 ≤ h16.size := Nat.le_trans Z6 (Keep.of_wr W16).1
    obtain ⟨T24, h24, X24, e24, W24, A24, st24⟩ := oStI X16 hx hZ e16 f23 (k := n) (own_ofNat (by omega)) (by omega) (g := (mkF m 70 #[.val (.ref a1), .val (.long q2), .second, .val (.long q3), .second, .val (.int (Int32.ofNat (2 * own_slot K q2)))] [(.int (Int32.ofNat (2 * own_slot K q2))), (.int (Int32.ofNat n)), (.ref us)])) rfl rfl (hb hby dP_70)
    have f25 := f17.wr W24
    have f26 := f18.other W24 (Or.inl ne2)
    have f27 := f19.other W24 (Or.inl ne2)
    have f28 := Fw16.other W24 (Or.inl ne2)
    have f29 := f20.other W24 (Or.inl ne2)
    have f30 := f21.other W24 (Or.inl ne2)
    have f31 := f22.other W24 ne3
    have N24 := Fr.snoc X24 N16 g_us
    have K24 := K16.wr W24 (Or.inl (List.mem_of_getElem? (i := 2) rfl))
    have Z24 : n0 ≤ h24.size := Nat.le_trans Z16 (Keep.of_wr W24).1
    obtain ⟨T32, X32, e32, st32⟩ := getF X24 hx hZ hown (host := "") (Or.inl (hw _ (List.mem_of_getElem? (i := 19) rfl))) Via.refl e24 f26 (g := (mkF m 72 #[.val (.ref a1), .val (.long q2), .second, .val (.long q3), .second, .val (.int (Int32.ofNat (2 * own_slot K q2)))] [(.ref a1)])) rfl rfl (hb hby dP_72)
    obtain ⟨T33, h33, X33, e33, W33, A33, st33⟩ := oStJ X32 hx hZ e32 f31 (k := (2 * own_slot K q2 + 1)) (own_addc (c := 1) rfl hsi (by omega) (by decide)) (by omega) (g := (mkF m 80 #[.val (.ref a1), .val (.long q2), .second, .val (.long q3), .second, .val (.int (Int32.ofNat (2 * own_slot K q2)))] [(.long q3), (.int ((Int32.ofNat (2 * own_slot K q2)) + (1 : Int32))), (.ref sl)])) rfl rfl (hb hby dP_80)
    have f34 := f25.wr W33
    have f35 := f26.other W33 (Or.inl ne1)
    have f36 := f27.other W33 (Or.inl ne1)
    have f37 := f28.other W33 (Or.inl ne1)
    have f38 := f29.other W33 (Or.inl ne1)
    have f39 := f30.other W33 (Or.inl ne1)
    have f40 := A24.other W33 (Ne.symm ne3)
    have N33 := Fr.snoc X33 N24 g_sl
    have K33 := K24.wr W33 (Or.inl (List.mem_of_getElem? (i := 1) rfl))
    have Z33 : n0 ≤ h33.size := Nat.le_trans Z24 (Keep.of_wr W33).1
    have Av := A33.congr (own_kv_uv (own_u K (own_slot K q2) q2) V (own_slot K q2) q3)
    have pre41 : ∀ t_, Steps p.tables e below (T33.setTop (mkF m 81 #[.val (.ref a1), .val (.long q2), .second, .val (.long q3), .second, .val (.int (Int32.ofNat (2 * own_slot K q2)))] [])) t_ → Steps p.tables e below (s₁.setTop (entryFrame m #[(.ref a1), (.long q2), (.long q3)] 6)) t_ := fun t_ k_ => pre0 t_ (by
        refine XS.aloadN X0.here hx rfl (hb hby dP_0) rfl rfl ?_
        show Steps p.tables e below (s₁.setTop (mkF m 1 #[.val (.ref a1), .val (.long q2), .second, .val (.long q3), .second, .unset] [(.ref a1)])) _
        refine XS.lloadN X0.here hx rfl (hb hby dP_1) rfl ?_
        show Steps p.tables e below (s₁.setTop (mkF m 2 #[.val (.ref a1), .val (.long q2), .second, .val (.long q3), .second, .unset] [(.long q2), (.ref a1)])) _
        refine st1.trans ?_
        show Steps p.tables e below (T1.setTop (mkF m 5 #[.val (.ref a1), .val (.long q2), .second, .val (.long q3), .second, .unset] [(.int (Int32.ofNat (2 * own_slot K q2)))])) _
        refine XS.istore X1.here hx rfl (hb hby dP_5) rfl (l' := #[.val (.ref a1), .val (.long q2), .second, .val (.long q3), .second, .val (.int (Int32.ofNat (2 * own_slot K q2)))]) rfl ?_
        show Steps p.tables e below (T1.setTop (mkF m 7 #[.val (.ref a1), .val (.long q2), .second, .val (.long q3), .second, .val (.int (Int32.ofNat (2 * own_slot K q2)))] [])) _
        refine XS.aloadN X1.here hx rfl (hb hby dP_7) rfl rfl ?_
        show Steps p.tables e below (T1.setTop (mkF m 8 #[.val (.ref a1), .val (.long q2), .second, .val (.long q3), .second, .val (.int (Int32.ofNat (2 * own_slot K q2)))] [(.ref a1)])) _
        refine st2 _ ?_
        show Steps p.tables e below (T2.setTop (mkF m 11 #[.val (.ref a1), .val (.long q2), .second, .val (.long q3), .second, .val (.int (Int32.ofNat (2 * own_slot K q2)))] [(.ref sl)])) _
        refine XS.iload X2.here hx rfl (hb hby dP_11) rfl ?_
        show Steps p.tables e below (T2.setTop (mkF m 13 #[.val (.ref a1), .val (.long q2), .second, .val (.long q3), .second, .val (.int (Int32.ofNat (2 * own_slot K q2)))] [(.int (Int32.ofNat (2 * own_slot K q2))), (.ref sl)])) _
        refine oLdJ X2 hx hZ e2 A1 (k := (2 * own_slot K q2)) hsi (by omega) (v := (K (own_slot K q2))) (own_kv_k K V _) (g := (mkF m 13 #[.val (.ref a1), .val (.long q2), .second, .val (.long q3), .second, .val (.int (Int32.ofNat (2 * own_slot K q2)))] [(.int (Int32.ofNat (2 * own_slot K q2))), (.ref sl)])) rfl rfl (hb hby dP_13) _ ?_
        show Steps p.tables e below (T2.setTop (mkF m 14 #[.val (.ref a1), .val (.long q2), .second, .val (.long q3), .second, .val (.int (Int32.ofNat (2 * own_slot K q2)))] [(.long (K (own_slot K q2)))])) _
        refine X2.ldc2Long hx hown (mvT hZ (hw _ (List.mem_of_getElem? (i := 27) rfl))) (g := (mkF m 14 #[.val (.ref a1), .val (.long q2), .second, .val (.long q3), .second, .val (.int (Int32.ofNat (2 * own_slot K q2)))] [(.long (K (own_slot K q2)))])) rfl (hb hby dP_14) _ ?_
        show Steps p.tables e below (T2.setTop (mkF m 17 #[.val (.ref a1), .val (.long q2), .second, .val (.long q3), .second, .val (.int (Int32.ofNat (2 * own_slot K q2)))] [(.long (-9223372036854775808 : Int64)), (.long (K (own_slot K q2)))])) _
        refine XS.lcmp X2.here hx rfl (hb hby dP_17) rfl ?_
        show Steps p.tables e below (T2.setTop (mkF m 18 #[.val (.ref a1), .val (.long q2), .second, .val (.long q3), .second, .val (.int (Int32.ofNat (2 * own_slot K q2)))] [(.int (lcmpW (K (own_slot K q2)) (-9223372036854775808 : Int64)))])) _
        refine XS.ifNo X2.here hx rfl (hb hby dP_18) rfl ((if0 _ _).trans (teq (own_lc hF)).2) ?_
        show Steps p.tables e below (T2.setTop (mkF m 21 #[.val (.ref a1), .val (.long q2), .second, .val (.long q3), .second, .val (.int (Int32.ofNat (2 * own_slot K q2)))] [])) _
        refine XS.aloadN X2.here hx rfl (hb hby dP_21) rfl rfl ?_
        show Steps p.tables e below (T2.setTop (mkF m 22 #[.val (.ref a1), .val (.long q2), .second, .val (.long q3), .second, .val (.int (Int32.ofNat (2 * own_slot K q2)))] [(.ref a1)])) _
        refine st3 _ ?_
        show Steps p.tables e below (T3.setTop (mkF m 25 #[.val (.ref a1), .val (.long q2), .second, .val (.long q3), .second, .val (.int (Int32.ofNat (2 * own_slot K q2)))] [(.int (Int32.ofNat n))])) _
        refine XS.aloadN X3.here hx rfl (hb hby dP_25) rfl rfl ?_
        show Steps p.tables e below (T3.setTop (mkF m 26 #[.val (.ref a1), .val (.long q2), .second, .val (.long q3), .second, .val (.int (Int32.ofNat (2 * own_slot K q2)))] [(.ref a1), (.int (Int32.ofNat n))])) _
        refine st4 _ ?_
        show Steps p.tables e below (T4.setTop (mkF m 29 #[.val (.ref a1), .val (.long q2), .second, .val (.long q3), .second, .val (.int (Int32.ofNat (2 * own_slot K q2)))] [(.int (16 : Int32)), (.int (Int32.ofNat n))])) _
        refine XS.iconst X4.here hx rfl (hb hby dP_29) ?_
        show Steps p.tables e below (T4.setTop (mkF m 30 #[.val (.ref a1), .val (.long q2), .second, .val (.long q3), .second, .val (.int (Int32.ofNat (2 * own_slot K q2)))] [(.int (2 : Int32)), (.int (16 : Int32)), (.int (Int32.ofNat n))])) _
        refine XS.idiv X4.here hx rfl (hb hby dP_30) rfl (by decide) ?_
        show Steps p.tables e below (T4.setTop (mkF m 31 #[.val (.ref a1), .val (.long q2), .second, .val (.long q3), .second, .val (.int (Int32.ofNat (2 * own_slot K q2)))] [(.int ((16 : Int32) / (2 : Int32))), (.int (Int32.ofNat n))])) _
        refine XS.icmpYes X4.here hx rfl (pc0 := 31) (pc' := 45) rfl (hb hby dP_31) rfl (feq (fun z => absurd (congrArg Int32.toInt z) (by rw [own_ofNat (by omega)]; show ¬ (n : Int) = 8; omega) : ¬ ((Int32.ofNat n) = ((16 : Int32) / (2 : Int32))))).2 (by decide) (by decide) ?_
        show Steps p.tables e below (T4.setTop (mkF m 45 #[.val (.ref a1), .val (.long q2), .second, .val (.long q3), .second, .val (.int (Int32.ofNat (2 * own_slot K q2)))] [])) _
        refine XS.aloadN X4.here hx rfl (hb hby dP_45) rfl rfl ?_
        show Steps p.tables e below (T4.setTop (mkF m 46 #[.val (.ref a1), .val (.long q2), .second, .val (.long q3), .second, .val (.int (Int32.ofNat (2 * own_slot K q2)))] [(.ref a1)])) _
        refine st5 _ ?_
        show Steps p.tables e below (T5.setTop (mkF m 49 #[.val (.ref a1), .val (.long q2), .second, .val (.long q3), .second, .val (.int (Int32.ofNat (2 * own_slot K q2)))] [(.ref sl)])) _
        refine XS.iload X5.here hx rfl (hb hby dP_49) rfl ?_
        show Steps p.tables e below (T5.setTop (mkF m 51 #[.val (.ref a1), .val (.long q2), .second, .val (.long q3), .second, .val (.int (Int32.ofNat (2 * own_slot K q2)))] [(.int (Int32.ofNat (2 * own_slot K q2))), (.ref sl)])) _
        refine XS.lloadN X5.here hx rfl (hb hby dP_51) rfl ?_
        show Steps p.tables e below (T5.setTop (mkF m 52 #[.val (.ref a1), .val (.long q2), .second, .val (.long q3), .second, .val (.int (Int32.ofNat (2 * own_slot K q2)))] [(.long q2), (.int (Int32.ofNat (2 * own_slot K q2))), (.ref sl)])) _
        refine st6 _ ?_
        show Steps p.tables e below (T6.setTop (mkF m 53 #[.val (.ref a1), .val (.long q2), .second, .val (.long q3), .second, .val (.int (Int32.ofNat (2 * own_slot K q2)))] [])) _
        refine XS.aloadN X6.here hx rfl (hb hby dP_53) rfl rfl ?_
        show Steps p.tables e below (T6.setTop (mkF m 54 #[.val (.ref a1), .val (.long q2), .second, .val (.long q3), .second, .val (.int (Int32.ofNat (2 * own_slot K q2)))] [(.ref a1)])) _
        refine st14 _ ?_
        show Steps p.tables e below (T14.setTop (mkF m 57 #[.val (.ref a1), .val (.long q2), .second, .val (.long q3), .second, .val (.int (Int32.ofNat (2 * own_slot K q2)))] [(.ref us)])) _
        refine XS.aloadN X14.here hx rfl (hb hby dP_57) rfl rfl ?_
        show Steps p.tables e below (T14.setTop (mkF m 58 #[.val (.ref a1), .val (.long q2), .second, .val (.long q3), .second, .val (.int (Int32.ofNat (2 * own_slot K q2)))] [(.ref a1), (.ref us)])) _
        refine XS.dup X14.here hx rfl (hb hby dP_58) rfl rfl ?_
        show Steps p.tables e below (T14.setTop (mkF m 59 #[.val (.ref a1), .val (.long q2), .second, .val (.long q3), .second, .val (.int (Int32.ofNat (2 * own_slot K q2)))] [(.ref a1), (.ref a1), (.ref us)])) _
        refine st15 _ ?_
        show Steps p.tables e below (T15.setTop (mkF m 62 #[.val (.ref a1), .val (.long q2), .second, .val (.long q3), .second, .val (.int (Int32.ofNat (2 * own_slot K q2)))] [(.int (Int32.ofNat n)), (.ref a1), (.ref us)])) _
        refine XS.dupX1 X15.here hx rfl (hb hby dP_62) rfl rfl rfl ?_
        show Steps p.tables e below (T15.setTop (mkF m 63 #[.val (.ref a1), .val (.long q2), .second, .val (.long q3), .second, .val (.int (Int32.ofNat (2 * own_slot K q2)))] [(.int (Int32.ofNat n)), (.ref a1), (.int (Int32.ofNat n)), (.ref us)])) _
        refine XS.iconst X15.here hx rfl (hb hby dP_63) ?_
        show Steps p.tables e below (T15.setTop (mkF m 64 #[.val (.ref a1), .val (.long q2), .second, .val (.long q3), .second, .val (.int (Int32.ofNat (2 * own_slot K q2)))] [(.int (1 : Int32)), (.int (Int32.ofNat n)), (.ref a1), (.int (Int32.ofNat n)), (.ref us)])) _
        refine XS.iadd X15.here hx rfl (hb hby dP_64) rfl ?_
        show Steps p.tables e below (T15.setTop (mkF m 65 #[.val (.ref a1), .val (.long q2), .second, .val (.long q3), .second, .val (.int (Int32.ofNat (2 * own_slot K q2)))] [(.int ((Int32.ofNat n) + (1 : Int32))), (.ref a1), (.int (Int32.ofNat n)), (.ref us)])) _
        refine st16 _ ?_
        show Steps p.tables e below (T16.setTop (mkF m 68 #[.val (.ref a1), .val (.long q2), .second, .val (.long q3), .second, .val (.int (Int32.ofNat (2 * own_slot K q2)))] [(.int (Int32.ofNat n)), (.ref us)])) _
        refine XS.iload X16.here hx rfl (hb hby dP_68) rfl ?_
        show Steps p.tables e below (T16.setTop (mkF m 70 #[.val (.ref a1), .val (.long q2), .second, .val (.long q3), .second, .val (.int (Int32.ofNat (2 * own_slot K q2)))] [(.int (Int32.ofNat (2 * own_slot K q2))), (.int (Int32.ofNat n)), (.ref us)])) _
        refine st24 _ ?_
        show Steps p.tables e below (T24.setTop (mkF m 71 #[.val (.ref a1), .val (.long q2), .second, .val (.long q3), .second, .val (.int (Int32.ofNat (2 * own_slot K q2)))] [])) _
        refine XS.aloadN X24.here hx rfl (hb hby dP_71) rfl rfl ?_
        show Steps p.tables e below (T24.setTop (mkF m 72 #[.val (.ref a1), .val (.long q2), .second, .val (.long q3), .second, .val (.int (Int32.ofNat (2 * own_slot K q2)))] [(.ref a1)])) _
        refine st32 _ ?_
        show Steps p.tables e below (T32.setTop (mkF m 75 #[.val (.ref a1), .val (.long q2), .second, .val (.long q3), .second, .val (.int (Int32.ofNat (2 * own_slot K q2)))] [(.ref sl)])) _
        refine XS.iload X32.here hx rfl (hb hby dP_75) rfl ?_
        show Steps p.tables e below (T32.setTop (mkF m 77 #[.val (.ref a1), .val (.long q2), .second, .val (.long q3), .second, .val (.int (Int32.ofNat (2 * own_slot K q2)))] [(.int (Int32.ofNat (2 * own_slot K q2))), (.ref sl)])) _
        refine XS.iconst X32.here hx rfl (hb hby dP_77) ?_
        show Steps p.tables e below (T32.setTop (mkF m 78 #[.val (.ref a1), .val (.long q2), .second, .val (.long q3), .second, .val (.int (Int32.ofNat (2 * own_slot K q2)))] [(.int (1 : Int32)), (.int (Int32.ofNat (2 * own_slot K q2))), (.ref sl)])) _
        refine XS.iadd X32.here hx rfl (hb hby dP_78) rfl ?_
        show Steps p.tables e below (T32.setTop (mkF m 79 #[.val (.ref a1), .val (.long q2), .second, .val (.long q3), .second, .val (.int (Int32.ofNat (2 * own_slot K q2)))] [(.int ((Int32.ofNat (2 * own_slot K q2)) + (1 : Int32))), (.ref sl)])) _
        refine XS.lloadN X32.here hx rfl (hb hby dP_79) rfl ?_
        show Steps p.tables e below (T32.setTop (mkF m 80 #[.val (.ref a1), .val (.long q2), .second, .val (.long q3), .second, .val (.int (Int32.ofNat (2 * own_slot K q2)))] [(.long q3), (.int ((Int32.ofNat (2 * own_slot K q2)) + (1 : Int32))), (.ref sl)])) _
        refine st33 _ ?_
        show Steps p.tables e below (T33.setTop (mkF m 81 #[.val (.ref a1), .val (.long q2), .second, .val (.long q3), .second, .val (.int (Int32.ofNat (2 * own_slot K q2)))] [])) _
        exact k_)
    have en : own_nn M q2 n = n + 1 := by rw [own_nn, if_pos (HM.absent hq hF)]
    have Fz : Fld Z h33 a1 "com/example/headwater/headwater/headdriven/LongMap" "m_nSize" "I" (.int (Int32.ofNat (n + 1))) := by
      have q := f37
      rw [own_inj32 (own_addc (c := 1) rfl (own_ofNat (by omega)) (by omega) (by decide)) (own_ofNat (n := n + 1) (by omega))] at q
      exact q
    obtain ⟨fs, hr, hrun, hended, hW, hsame⟩ := X33.leave (v := none) (fun _ => rfl)
    refine ⟨_, _, pre41 _ ?_, hrun, hended, _, _, rfl, ?_, ⟨_, rfl⟩, hW, hsame.mono (by decide) (by decide)⟩
    · exact X33.returnOut hx Bd.returns (hb hby dP_81) hr
    · show QP Z a1 q2 q3 sl us M n h0 n0 _ T33.heap _
      rw [e33]
      exact ⟨rfl, N33, K33, by
        rw [en]
        exact ⟨f34, f35, f36, Fz, f38, f39, ⟨_, _, Av, HM.put (by omega) hq hF⟩, _, f40⟩⟩
  ·
    obtain ⟨cq42, q42, q42'⟩ := E1.cell
    obtain ⟨_, _, ⟨T42, L42, k42, n42⟩, -, X42, ⟨Lc42, hQ42, l42, y42, z42⟩, st42⟩ := X0.privateBack hx (y := (⟨"com/example/headwater/headwater/headdriven/LongMap", "_slot", "(J)I"⟩ : MethodName)) hown (mvT hZ (hw _ (List.mem_of_getElem? (i := 83) rfl))) (mvT hZ (hw _ (List.mem_of_getElem? (i := 84) rfl))) (own_sel (y := (⟨"com/example/headwater/headwater/headdriven/LongMap", "_slot", "(J)I"⟩ : MethodName)) hZ (hw _ (List.mem_of_getElem? (i := 12) rfl)) (hw _ (List.mem_of_getElem? (i := 84) rfl)) (hw _ (List.mem_of_getElem? (i := 85) rfl)) (by decide)) (Cond.privateMethod_at (mvP hZ (hw _ (List.mem_of_getElem? (i := 85) rfl)) (args := #[]))) (mvT hZ (hw _ (List.mem_of_getElem? (i := 86) rfl))) (by decide) (backOf (W := 0) (rmS l Z a0 hw [] a1 q2 sl K V h0 n0 Z0 F1 F4 F5 A1 hst) hZ (hw _ (List.mem_of_getElem? (i := 86) rfl)) (hw _ (List.mem_of_getElem? (i := 13) rfl)) (by decide) (by decide)) (g := (mkF m 2 #[.val (.ref a1), .val (.long q2), .second, .val (.long q3), .second, .unset] [(.long q2), (.ref a1)])) rfl (by rw [hml]; rfl) (Steps.refl _) (a := a1) (by rw [e0]; exact q42) q42' (argsL := [(.long q2)]) (rest := []) (lenOf pdP_0 rfl) rfl (by show 2 * 0 + _ ≤ _; exact Nat.le_of_eq rfl) (hb hby dP_2) (fun _ _ => ⟨rfl, e0, (by decide : 0 + 0 ≤ _), (by decide : 0 + 0 ≤ _)⟩)
    dsimp only [Pt.U, Pt.locs, Pt.cells, Pt.slots] at X42 l42 y42 z42 st42 hQ42
    subst l42 y42 z42
    obtain ⟨rfl, N42q, e42⟩ := hQ42
    have N42 := Fr.app N0 N42q
    obtain ⟨T43, X43, e43, st43⟩ := getF X42 hx hZ hown (host := "") (Or.inl (hw _ (List.mem_of_getElem? (i := 19) rfl))) Via.refl e42 F1 (g := (mkF m 8 #[.val (.ref a1), .val (.long q2), .second, .val (.long q3), .second, .val (.int (Int32.ofNat (2 * own_slot K q2)))] [(.ref a1)])) rfl rfl (hb hby dP_8)
    obtain ⟨T44, X44, e44, st44⟩ := getF X43 hx hZ hown (host := "") (Or.inl (hw _ (List.mem_of_getElem? (i := 19) rfl))) Via.refl e43 F1 (g := (mkF m 72 #[.val (.ref a1), .val (.long q2), .second, .val (.long q3), .second, .val (.int (Int32.ofNat (2 * own_slot K q2)))] [(.ref a1)])) rfl rfl (hb hby dP_72)
    obtain ⟨T45, h45, X45, e45, W45, A45, st45⟩ := oStJ X44 hx hZ e44 A1 (k := (2 * own_slot K q2 + 1)) (own_addc (c := 1) rfl hsi (by omega) (by decide)) (by omega) (g := (mkF m 80 #[.val (.ref a1), .val (.long q2), .second, .val (.long q3), .second, .val (.int (Int32.ofNat (2 * own_slot K q2)))] [(.long q3), (.int ((Int32.ofNat (2 * own_slot K q2)) + (1 : Int32))), (.ref sl)])) rfl rfl (hb hby dP_80)
    have f46 := E1.wr W45
    have f47 := F1.other W45 (Or.inl ne1)
    have f48 := F2.other W45 (Or.inl ne1)
    have f49 := F3.other W45 (Or.inl ne1)
    have f50 := F4.other W45 (Or.inl ne1)
    have f51 := F5.other W45 (Or.inl ne1)
    have f52 := B1.other W45 (Ne.symm ne3)
    have N45 := Fr.snoc X45 N42 g_sl
    have K45 := (Keep.refl h0 [a1, sl, us]).wr W45 (Or.inl (List.mem_of_getElem? (i := 1) rfl))
    have Z45 : n0 ≤ h45.size := Nat.le_trans Z0 (Keep.of_wr W45).1
    have Av := A45.congr (own_kv_uv K V (own_slot K q2) q3)
    have pre53 : ∀ t_, Steps p.tables e below (T45.setTop (mkF m 81 #[.val (.ref a1), .val (.long q2), .second, .val (.long q3), .second, .val (.int (Int32.ofNat (2 * own_slot K q2)))] [])) t_ → Steps p.tables e below (s₁.setTop (entryFrame m #[(.ref a1), (.long q2), (.long q3)] 6)) t_ := fun t_ k_ => pre0 t_ (by
        refine XS.aloadN X0.here hx rfl (hb hby dP_0) rfl rfl ?_
        show Steps p.tables e below (s₁.setTop (mkF m 1 #[.val (.ref a1), .val (.long q2), .second, .val (.long q3), .second, .unset] [(.ref a1)])) _
        refine XS.lloadN X0.here hx rfl (hb hby dP_1) rfl ?_
        show Steps p.tables e below (s₁.setTop (mkF m 2 #[.val (.ref a1), .val (.long q2), .second, .val (.long q3), .second, .unset] [(.long q2), (.ref a1)])) _
        refine st42.trans ?_
        show Steps p.tables e below (T42.setTop (mkF m 5 #[.val (.ref a1), .val (.long q2), .second, .val (.long q3), .second, .unset] [(.int (Int32.ofNat (2 * own_slot K q2)))])) _
        refine XS.istore X42.here hx rfl (hb hby dP_5) rfl (l' := #[.val (.ref a1), .val (.long q2), .second, .val (.long q3), .second, .val (.int (Int32.ofNat (2 * own_slot K q2)))]) rfl ?_
        show Steps p.tables e below (T42.setTop (mkF m 7 #[.val (.ref a1), .val (.long q2), .second, .val (.long q3), .second, .val (.int (Int32.ofNat (2 * own_slot K q2)))] [])) _
        refine XS.aloadN X42.here hx rfl (hb hby dP_7) rfl rfl ?_
        show Steps p.tables e below (T42.setTop (mkF m 8 #[.val (.ref a1), .val (.long q2), .second, .val (.long q3), .second, .val (.int (Int32.ofNat (2 * own_slot K q2)))] [(.ref a1)])) _
        refine st43 _ ?_
        show Steps p.tables e below (T43.setTop (mkF m 11 #[.val (.ref a1), .val (.long q2), .second, .val (.long q3), .second, .val (.int (Int32.ofNat (2 * own_slot K q2)))] [(.ref sl)])) _
        refine XS.iload X43.here hx rfl (hb hby dP_11) rfl ?_
        show Steps p.tables e below (T43.setTop (mkF m 13 #[.val (.ref a1), .val (.long q2), .second, .val (.long q3), .second, .val (.int (Int32.ofNat (2 * own_slot K q2)))] [(.int (Int32.ofNat (2 * own_slot K q2))), (.ref sl)])) _
        refine oLdJ X43 hx hZ e43 A1 (k := (2 * own_slot K q2)) hsi (by omega) (v := (K (own_slot K q2))) (own_kv_k K V _) (g := (mkF m 13 #[.val (.ref a1), .val (.long q2), .second, .val (.long q3), .second, .val (.int (Int32.ofNat (2 * own_slot K q2)))] [(.int (Int32.ofNat (2 * own_slot K q2))), (.ref sl)])) rfl rfl (hb hby dP_13) _ ?_
        show Steps p.tables e below (T43.setTop (mkF m 14 #[.val (.ref a1), .val (.long q2), .second, .val (.long q3), .second, .val (.int (Int32.ofNat (2 * own_slot K q2)))] [(.long (K (own_slot K q2)))])) _
        refine X43.ldc2Long hx hown (mvT hZ (hw _ (List.mem_of_getElem? (i := 27) rfl))) (g := (mkF m 14 #[.val (.ref a1), .val (.long q2), .second, .val (.long q3), .second, .val (.int (Int32.ofNat (2 * own_slot K q2)))] [(.long (K (own_slot K q2)))])) rfl (hb hby dP_14) _ ?_
        show Steps p.tables e below (T43.setTop (mkF m 17 #[.val (.ref a1), .val (.long q2), .second, .val (.long q3), .second, .val (.int (Int32.ofNat (2 * own_slot K q2)))] [(.long (-9223372036854775808 : Int64)), (.long (K (own_slot K q2)))])) _
        refine XS.lcmp X43.here hx rfl (hb hby dP_17) rfl ?_
        show Steps p.tables e below (T43.setTop (mkF m 18 #[.val (.ref a1), .val (.long q2), .second, .val (.long q3), .second, .val (.int (Int32.ofNat (2 * own_slot K q2)))] [(.int (lcmpW (K (own_slot K q2)) (-9223372036854775808 : Int64)))])) _
        refine XS.ifYes X43.here hx rfl (pc0 := 18) (pc' := 71) rfl (hb hby dP_18) rfl ((if0 _ _).trans (feq (own_lcn hF)).2) (by decide) (by decide) ?_
        show Steps p.tables e below (T43.setTop (mkF m 71 #[.val (.ref a1), .val (.long q2), .second, .val (.long q3), .second, .val (.int (Int32.ofNat (2 * own_slot K q2)))] [])) _
        refine XS.aloadN X43.here hx rfl (hb hby dP_71) rfl rfl ?_
        show Steps p.tables e below (T43.setTop (mkF m 72 #[.val (.ref a1), .val (.long q2), .second, .val (.long q3), .second, .val (.int (Int32.ofNat (2 * own_slot K q2)))] [(.ref a1)])) _
        refine st44 _ ?_
        show Steps p.tables e below (T44.setTop (mkF m 75 #[.val (.ref a1), .val (.long q2), .second, .val (.long q3), .second, .val (.int (Int32.ofNat (2 * own_slot K q2)))] [(.ref sl)])) _
        refine XS.iload X44.here hx rfl (hb hby dP_75) rfl ?_
        show Steps p.tables e below (T44.setTop (mkF m 77 #[.val (.ref a1), .val (.long q2), .second, .val (.long q3), .second, .val (.int (Int32.ofNat (2 * own_slot K q2)))] [(.int (Int32.ofNat (2 * own_slot K q2))), (.ref sl)])) _
        refine XS.iconst X44.here hx rfl (hb hby dP_77) ?_
        show Steps p.tables e below (T44.setTop (mkF m 78 #[.val (.ref a1), .val (.long q2), .second, .val (.long q3), .second, .val (.int (Int32.ofNat (2 * own_slot K q2)))] [(.int (1 : Int32)), (.int (Int32.ofNat (2 * own_slot K q2))), (.ref sl)])) _
        refine XS.iadd X44.here hx rfl (hb hby dP_78) rfl ?_
        show Steps p.tables e below (T44.setTop (mkF m 79 #[.val (.ref a1), .val (.long q2), .second, .val (.long q3), .second, .val (.int (Int32.ofNat (2 * own_slot K q2)))] [(.int ((Int32.ofNat (2 * own_slot K q2)) + (1 : Int32))), (.ref sl)])) _
        refine XS.lloadN X44.here hx rfl (hb hby dP_79) rfl ?_
        show Steps p.tables e below (T44.setTop (mkF m 80 #[.val (.ref a1), .val (.long q2), .second, .val (.long q3), .second, .val (.int (Int32.ofNat (2 * own_slot K q2)))] [(.long q3), (.int ((Int32.ofNat (2 * own_slot K q2)) + (1 : Int32))), (.ref sl)])) _
        refine st45 _ ?_
        show Steps p.tables e below (T45.setTop (mkF m 81 #[.val (.ref a1), .val (.long q2), .second, .val (.long q3), .second, .val (.int (Int32.ofNat (2 * own_slot K q2)))] [])) _
        exact k_)
    have en : own_nn M q2 n = n := by rw [own_nn, if_neg (by rw [HM.present hq hF]; exact Option.some_ne_none _)]
    have Fz := f49
    obtain ⟨fs, hr, hrun, hended, hW, hsame⟩ := X45.leave (v := none) (fun _ => rfl)
    refine ⟨_, _, pre53 _ ?_, hrun, hended, _, _, rfl, ?_, ⟨_, rfl⟩, hW, hsame.mono (by decide) (by decide)⟩
    · exact X45.returnOut hx Bd.returns (hb hby dP_81) hr
    · show QP Z a1 q2 q3 sl us M n h0 n0 _ T45.heap _
      rw [e45]
      exact ⟨rfl, N45, K45, by
        rw [en]
        exact ⟨f46, f47, f48, Fz, f50, f51, ⟨_, _, Av, HM.set (by omega) hq hF⟩, _, f52⟩⟩
theorem dT_0 : decode prog_51_method_7_code 0 = .ok (.aload_n 0, 1) := by decide +kernel
theorem dT_1 : decode prog_51_method_7_code 1 = .ok (.lload_n 1, 1) := by decide +kernel
theorem dT_2 : decode prog_51_method_7_code 2 = .ok (.invokevirtual 56, 3) := by decide +kernel
theorem dT_5 : decode prog_51_method_7_code 5 = .ok (.istore_n 3, 1) := by decide +kernel
theorem dT_6 : decode prog_51_method_7_code 6 = .ok (.iload_n 3, 1) := by decide +kernel
theorem dT_7 : decode prog_51_method_7_code 7 = .ok (.iconst (-1), 1) := by decide +kernel
theorem dT_8 : decode prog_51_method_7_code 8 = .ok (.if_icmp .eq 5, 3) := by decide +kernel
theorem dT_13 : decode prog_51_method_7_code 13 = .ok (.aload_n 0, 1) := by decide +kernel
theorem dT_14 : decode prog_51_method_7_code 14 = .ok (.getfield 28, 3) := by decide +kernel
theorem dT_17 : decode prog_51_method_7_code 17 = .ok (.istore 4, 2) := by decide +kernel
theorem dT_19 : decode prog_51_method_7_code 19 = .ok (.aload_n 0, 1) := by decide +kernel
theorem dT_20 : decode prog_51_method_7_code 20 = .ok (.lload_n 1, 1) := by decide +kernel
theorem dT_21 : decode prog_51_method_7_code 21 = .ok (.iload 4, 2) := by decide +kernel
theorem dT_23 : decode prog_51_method_7_code 23 = .ok (.i2l, 1) := by decide +kernel
theorem dT_24 : decode prog_51_method_7_code 24 = .ok (.invokevirtual 58, 3) := by decide +kernel
theorem dT_27 : decode prog_51_method_7_code 27 = .ok (.iload 4, 2) := by decide +kernel
theorem dT_29 : decode prog_51_method_7_code 29 = .ok (.ireturn, 1) := by decide +kernel
theorem pdT_0 : parseMethodDescriptor "(J)I" = some ⟨[.long], some .int⟩ := by decide +kernel
theorem pdT_1 : parseMethodDescriptor "(JJ)V" = some ⟨[.long, .long], none⟩ := by decide +kernel
theorem pnT : plainName "com/example/headwater/headwater/headdriven/LongMap" = true := by first | (simp [plainName, overriddenIn]; done) | decide +kernel
theorem efT (m : MethodId) (a1 : Addr) (q2 : Int64) : entryFrame m #[(.ref a1), (.long q2)] 5 = mkF m 0 #[.val (.ref a1), .val (.long q2), .second, .unset, .unset] [] := by first | (simp [entryFrame, mkF, argsToLocals, Value.category]; done) | rfl
def QT (Z : State) (a1 : Addr) (q2 : Int64) (sl us : Addr) (M : Int64 → Option Int64) (n : Nat) (h0 : Heap) (n0 : Nat) (v : Option Value) (h : Heap) (L : List Loc) : Prop := v = some (.int (Int32.ofNat n)) ∧ Fr n0 L ∧ Keep h0 h [a1, sl, us] ∧ own_LM Z h a1 sl us (own_mput M q2 ((Int32.ofNat n).toInt64)) (n + 1)
set_option maxRecDepth 65536 in
set_option maxHeartbeats 40000000 in
theorem rmT (l : Launch) (Z : State) (a0 : Array Value) (hw : ∀ d ∈ tables_1, d.before a0 Z = true) (ws : List Jvm.Cond) (a1 : Addr) (q2 : Int64) (sl us : Addr) (M : Int64 → Option Int64) (n : Nat) (h0 : Heap) (n0 : Nat) (Z0 : n0 ≤ h0.size) (LM0 : own_LM Z h0 a1 sl us M n) (hn : n < 8) (hq : q2 ≠ own_FREE) (ne1 : a1 ≠ sl) (ne2 : a1 ≠ us) (ne3 : sl ≠ us) (g_a1 : n0 ≤ a1) (g_sl : n0 ≤ sl) (g_us : n0 ≤ us) (hM : M q2 = none) :
    MetFree l (⟨"com/example/headwater/headwater/headdriven/LongMap", "intern", "(J)I"⟩ : MethodName) (head1 (Jvm.Cond.code (⟨"com/example/headwater/headwater/headdriven/LongMap", "intern", "(J)I"⟩ : MethodName) prog_51_method_7_code 5 (some .int) :: ws) ({ frames := 3, cells := 0, slots := 0, locals := 47 } : Room)) (fun a U => a = #[(.ref a1), (.long q2)] ∧ Z.Warmed39 U.vm ∧ U.heap = h0) (fun _ _ _ _ _ => True) (fun _ U o U' => ∃ v L, o = .returned v ∧ QT Z a1 q2 sl us M n h0 n0 v U'.heap L ∧ FrameEnd U o U' L ({ frames := 3, cells := 0, slots := 0, locals := 47 } : Room).cells ({ frames := 3, cells := 0, slots := 0, locals := 47 } : Room).slots) := by
  refine MetFree.of_bodySF (plainFor_of_name pnT) hisR ?_
  intro p e s m args below meth c s₁ Bd hml0 hP hK
  obtain ⟨rfl, hZ, hh⟩ := hP
  have hx := Bd.exec
  have hby := Bd.bytes
  have hml : c.maxLocals = 5 := hml0
  have hown : s.vm.findClass "com/example/headwater/headwater/headdriven/LongMap" = some m.cls := findClass_of_methodNamed Bd.named
  have hnm := (name_of_methodNamed Bd.named Bd.method).1
  have X0 : Stand p l e ({ frames := 3, cells := 0, slots := 0, locals := 47 } : Room) s m #[(.ref a1), (.long q2)] below meth c s₁ [] 0 0 := Stand.of_body Bd
  have e0 : s₁.heap = h0 := by rw [← hh, Bd.state]; rfl
  have N0 := Fr.nil n0
  have pre0 : ∀ t, Steps p.tables e below (s₁.setTop (mkF m 0 #[.val (.ref a1), .val (.long q2), .second, .unset, .unset] [])) t → Steps p.tables e below (s₁.setTop (entryFrame m #[(.ref a1), (.long q2)] 5)) t := fun t k => castTop (efT m a1 q2) k
  have F3 := LM0.2.2.2.1
  obtain ⟨cq1, kq1, q1a, q1b, q1c⟩ := isOf hZ e0 LM0.1
  obtain ⟨_, _, ⟨T1, L1, k1, n1⟩, -, X1, ⟨Lc1, hQ1, l1, y1, z1⟩, st1⟩ := X0.virtualBack hx (y := (⟨"com/example/headwater/headwater/headdriven/LongMap", "get", "(J)I"⟩ : MethodName)) (z := (⟨"com/example/headwater/headwater/headdriven/LongMap", "get", "(J)I"⟩ : MethodName)) hown (mvT hZ (hw _ (List.mem_of_getElem? (i := 72) rfl))) (mvT hZ (hw _ (List.mem_of_getElem? (i := 73) rfl))) (notFace_of_selects (args := #[]) (mvT hZ (hw _ (List.mem_of_getElem? (i := 75) rfl)))) (mvT hZ (hw _ (List.mem_of_getElem? (i := 75) rfl))) (mvT hZ (hw _ (List.mem_of_getElem? (i := 74) rfl))) (by decide) (backOf (W := 0) (rmH2 l Z a0 hw [] a1 q2 sl us M n h0 n0 Z0 LM0 (by omega) hq) hZ (hw _ (List.mem_of_getElem? (i := 76) rfl)) (hw _ (List.mem_of_getElem? (i := 13) rfl)) (by decide) (by decide)) q1a q1c (g := (mkF m 2 #[.val (.ref a1), .val (.long q2), .second, .unset, .unset] [(.long q2), (.ref a1)])) rfl (by rw [hml]; rfl) (Steps.refl _) (argsL := [(.long q2)]) (rest := []) (lenOf pdT_0 rfl) rfl (by show 2 * 0 + _ ≤ _; exact Nat.le_of_eq rfl) (hb hby dT_2) (fun _ _ => ⟨rfl, e0, (by decide : 0 + 0 ≤ _), (by decide : 0 + 0 ≤ _)⟩)
  dsimp only [Pt.U, Pt.locs, Pt.cells, Pt.slots] at X1 l1 y1 z1 st1 hQ1
  subst l1 y1 z1
  obtain ⟨rfl, N1q, e1⟩ := hQ1
  have N1 := Fr.app N0 N1q
  obtain ⟨T2, X2, e2, st2⟩ := getF X1 hx hZ hown (host := "") (Or.inl (hw _ (List.mem_of_getElem? (i := 31) rfl))) Via.refl e1 F3 (g := (mkF m 14 #[.val (.ref a1), .val (.long q2), .second, .val (.int (((M q2).getD (-1 : Int64)).toInt32)), .unset] [(.ref a1)])) rfl rfl (hb hby dT_14)
  obtain ⟨cq3, kq3, q3a, q3b, q3c⟩ := isOf hZ e2 LM0.1
  obtain ⟨_, _, ⟨T3, L3, k3, n3⟩, -, X3, ⟨Lc3, hQ3, l3, y3, z3⟩, st3⟩ := X2.virtualBack hx (y := (⟨"com/example/headwater/headwater/headdriven/LongMap", "put", "(JJ)V"⟩ : MethodName)) (z := (⟨"com/example/headwater/headwater/headdriven/LongMap", "put", "(JJ)V"⟩ : MethodName)) hown (mvT hZ (hw _ (List.mem_of_getElem? (i := 88) rfl))) (mvT hZ (hw _ (List.mem_of_getElem? (i := 89) rfl))) (notFace_of_selects (args := #[]) (mvT hZ (hw _ (List.mem_of_getElem? (i := 91) rfl)))) (mvT hZ (hw _ (List.mem_of_getElem? (i := 91) rfl))) (mvT hZ (hw _ (List.mem_of_getElem? (i := 90) rfl))) (by decide) (backOf (W := 0) (rmP l Z a0 hw [] a1 q2 (((Int32.ofNat n).toInt64)) sl us M n h0 n0 Z0 LM0 hn hq ne1 ne2 ne3 g_a1 g_sl g_us) hZ (hw _ (List.mem_of_getElem? (i := 92) rfl)) (hw _ (List.mem_of_getElem? (i := 13) rfl)) (by decide) (by decide)) q3a q3c (g := (mkF m 24 #[.val (.ref a1), .val (.long q2), .second, .val (.int (((M q2).getD (-1 : Int64)).toInt32)), .val (.int (Int32.ofNat n))] [(.long ((Int32.ofNat n).toInt64)), (.long q2), (.ref a1)])) rfl (by rw [hml]; rfl) (Steps.refl _) (argsL := [(.long q2), (.long ((Int32.ofNat n).toInt64))]) (rest := []) (lenOf pdT_1 rfl) rfl (by show 2 * 0 + _ ≤ _; exact Nat.le_of_eq rfl) (hb hby dT_24) (fun _ _ => ⟨rfl, e2, (by decide : 0 + 0 ≤ _), (by decide : 0 + 0 ≤ _)⟩)
  dsimp only [Pt.U, Pt.locs, Pt.cells, Pt.slots] at X3 l3 y3 z3 st3 hQ3
  subst l3 y3 z3
  obtain ⟨rfl, N3q, K3, LM3⟩ := hQ3
  have N3 := Fr.app N1 N3q
  have f4 := LM0.1.keep K3
  have Z3 : n0 ≤ T3.heap.size := Nat.le_trans Z0 K3.1
  have KK3 := (Keep.refl h0 [a1, sl, us]).trans K3 (allS (Or.inl (List.mem_of_getElem? (i := 0) rfl)) (allS (Or.inl (List.mem_of_getElem? (i := 1) rfl)) (allS (Or.inl (List.mem_of_getElem? (i := 2) rfl)) all0)))
  have pre5 : ∀ t_, Steps p.tables e below (T3.setTop (mkF m 29 #[.val (.ref a1), .val (.long q2), .second, .val (.int (((M q2).getD (-1 : Int64)).toInt32)), .val (.int (Int32.ofNat n))] [(.int (Int32.ofNat n))])) t_ → Steps p.tables e below (s₁.setTop (entryFrame m #[(.ref a1), (.long q2)] 5)) t_ := fun t_ k_ => pre0 t_ (by
      refine XS.aloadN X0.here hx rfl (hb hby dT_0) rfl rfl ?_
      show Steps p.tables e below (s₁.setTop (mkF m 1 #[.val (.ref a1), .val (.long q2), .second, .unset, .unset] [(.ref a1)])) _
      refine XS.lloadN X0.here hx rfl (hb hby dT_1) rfl ?_
      show Steps p.tables e below (s₁.setTop (mkF m 2 #[.val (.ref a1), .val (.long q2), .second, .unset, .unset] [(.long q2), (.ref a1)])) _
      refine st1.trans ?_
      show Steps p.tables e below (T1.setTop (mkF m 5 #[.val (.ref a1), .val (.long q2), .second, .unset, .unset] [(.int (((M q2).getD (-1 : Int64)).toInt32))])) _
      refine XS.istoreN X1.here hx rfl (hb hby dT_5) rfl (l' := #[.val (.ref a1), .val (.long q2), .second, .val (.int (((M q2).getD (-1 : Int64)).toInt32)), .unset]) rfl ?_
      show Steps p.tables e below (T1.setTop (mkF m 6 #[.val (.ref a1), .val (.long q2), .second, .val (.int (((M q2).getD (-1 : Int64)).toInt32)), .unset] [])) _
      refine XS.iloadN X1.here hx rfl (hb hby dT_6) rfl ?_
      show Steps p.tables e below (T1.setTop (mkF m 7 #[.val (.ref a1), .val (.long q2), .second, .val (.int (((M q2).getD (-1 : Int64)).toInt32)), .unset] [(.int (((M q2).getD (-1 : Int64)).toInt32))])) _
      refine XS.iconst X1.here hx rfl (hb hby dT_7) ?_
      show Steps p.tables e below (T1.setTop (mkF m 8 #[.val (.ref a1), .val (.long q2), .second, .val (.int (((M q2).getD (-1 : Int64)).toInt32)), .unset] [(.int (-1 : Int32)), (.int (((M q2).getD (-1 : Int64)).toInt32))])) _
      refine XS.icmpYes X1.here hx rfl (pc0 := 8) (pc' := 13) rfl (hb hby dT_8) rfl (teq (by rw [hM]; decide : (((M q2).getD (-1 : Int64)).toInt32) = (-1 : Int32))).1 (by decide) (by decide) ?_
      show Steps p.tables e below (T1.setTop (mkF m 13 #[.val (.ref a1), .val (.long q2), .second, .val (.int (((M q2).getD (-1 : Int64)).toInt32)), .unset] [])) _
      refine XS.aloadN X1.here hx rfl (hb hby dT_13) rfl rfl ?_
      show Steps p.tables e below (T1.setTop (mkF m 14 #[.val (.ref a1), .val (.long q2), .second, .val (.int (((M q2).getD (-1 : Int64)).toInt32)), .unset] [(.ref a1)])) _
      refine st2 _ ?_
      show Steps p.tables e below (T2.setTop (mkF m 17 #[.val (.ref a1), .val (.long q2), .second, .val (.int (((M q2).getD (-1 : Int64)).toInt32)), .unset] [(.int (Int32.ofNat n))])) _
      refine XS.istore X2.here hx rfl (hb hby dT_17) rfl (l' := #[.val (.ref a1), .val (.long q2), .second, .val (.int (((M q2).getD (-1 : Int64)).toInt32)), .val (.int (Int32.ofNat n))]) rfl ?_
      show Steps p.tables e below (T2.setTop (mkF m 19 #[.val (.ref a1), .val (.long q2), .second, .val (.int (((M q2).getD (-1 : Int64)).toInt32)), .val (.int (Int32.ofNat n))] [])) _
      refine XS.aloadN X2.here hx rfl (hb hby dT_19) rfl rfl ?_
      show Steps p.tables e below (T2.setTop (mkF m 20 #[.val (.ref a1), .val (.long q2), .second, .val (.int (((M q2).getD (-1 : Int64)).toInt32)), .val (.int (Int32.ofNat n))] [(.ref a1)])) _
      refine XS.lloadN X2.here hx rfl (hb hby dT_20) rfl ?_
      show Steps p.tables e below (T2.setTop (mkF m 21 #[.val (.ref a1), .val (.long q2), .second, .val (.int (((M q2).getD (-1 : Int64)).toInt32)), .val (.int (Int32.ofNat n))] [(.long q2), (.ref a1)])) _
      refine XS.iload X2.here hx rfl (hb hby dT_21) rfl ?_
      show Steps p.tables e below (T2.setTop (mkF m 23 #[.val (.ref a1), .val (.long q2), .second, .val (.int (((M q2).getD (-1 : Int64)).toInt32)), .val (.int (Int32.ofNat n))] [(.int (Int32.ofNat n)), (.long q2), (.ref a1)])) _
      refine XS.i2l X2.here hx rfl (hb hby dT_23) rfl ?_
      show Steps p.tables e below (T2.setTop (mkF m 24 #[.val (.ref a1), .val (.long q2), .second, .val (.int (((M q2).getD (-1 : Int64)).toInt32)), .val (.int (Int32.ofNat n))] [(.long ((Int32.ofNat n).toInt64)), (.long q2), (.ref a1)])) _
      refine st3.trans ?_
      show Steps p.tables e below (T3.setTop (mkF m 27 #[.val (.ref a1), .val (.long q2), .second, .val (.int (((M q2).getD (-1 : Int64)).toInt32)), .val (.int (Int32.ofNat n))] [])) _
      refine XS.iload X3.here hx rfl (hb hby dT_27) rfl ?_
      show Steps p.tables e below (T3.setTop (mkF m 29 #[.val (.ref a1), .val (.long q2), .second, .val (.int (((M q2).getD (-1 : Int64)).toInt32)), .val (.int (Int32.ofNat n))] [(.int (Int32.ofNat n))])) _
      exact k_)
  obtain ⟨fs, hr, hrun, hended, hW, hsame⟩ := X3.leave (v := some (.int (Int32.ofNat n))) (fun h => by rw [Bd.returns] at h; cases h)
  refine ⟨_, _, pre5 _ ?_, hrun, hended, _, _, rfl, ?_, ⟨_, rfl⟩, hW, hsame.mono (by decide) (by decide)⟩
  · exact retI X3 hx Bd.returns (hb hby dT_29) hr
  · show QT Z a1 q2 sl us M n h0 n0 _ T3.heap _
    exact ⟨rfl, N3, KK3, by
      have q := LM3
      rw [show own_nn M q2 n = n + 1 by rw [own_nn, if_pos hM]] at q
      exact q⟩
def own_key (a b : Int32) : Int64 := (a.toInt64 <<< ((32 : Int32) &&& 0x3f).toInt64) ||| (b.toInt64 &&& (4294967295 : Int64))
theorem dY_0 : decode prog_34_method_2_code 0 = .ok (.iload_n 0, 1) := by decide +kernel
theorem dY_1 : decode prog_34_method_2_code 1 = .ok (.i2l, 1) := by decide +kernel
theorem dY_2 : decode prog_34_method_2_code 2 = .ok (.bipush 32, 2) := by decide +kernel
theorem dY_4 : decode prog_34_method_2_code 4 = .ok (.lshl, 1) := by decide +kernel
theorem dY_5 : decode prog_34_method_2_code 5 = .ok (.iload_n 1, 1) := by decide +kernel
theorem dY_6 : decode prog_34_method_2_code 6 = .ok (.i2l, 1) := by decide +kernel
theorem dY_7 : decode prog_34_method_2_code 7 = .ok (.ldc2_w 23, 3) := by decide +kernel
theorem dY_10 : decode prog_34_method_2_code 10 = .ok (.land, 1) := by decide +kernel
theorem dY_11 : decode prog_34_method_2_code 11 = .ok (.lor, 1) := by decide +kernel
theorem dY_12 : decode prog_34_method_2_code 12 = .ok (.lreturn, 1) := by decide +kernel
theorem pnY : plainName "com/example/headwater/headwater/headdriven/EventCounts" = true := by first | (simp [plainName, overriddenIn]; done) | decide +kernel
theorem efY (m : MethodId) (p1 : Int32) (p2 : Int32) : entryFrame m #[(.int p1), (.int p2)] 2 = mkF m 0 #[.val (.int p1), .val (.int p2)] [] := by first | (simp [entryFrame, mkF, argsToLocals, Value.category]; done) | rfl
def QY (Z : State) (p1 p2 : Int32) (h0 : Heap) (n0 : Nat) (v : Option Value) (h : Heap) (L : List Loc) : Prop := v = some (.long (own_key p1 p2)) ∧ Fr n0 L ∧ h = h0
set_option maxRecDepth 65536 in
set_option maxHeartbeats 40000000 in
theorem rmY (l : Launch) (Z : State) (a0 : Array Value) (hw : ∀ d ∈ tables_1, d.before a0 Z = true) (ws : List Jvm.Cond) (p1 p2 : Int32) (h0 : Heap) (n0 : Nat) (Z0 : n0 ≤ h0.size) :
    MetFree l (⟨"com/example/headwater/headwater/headdriven/EventCounts", "_key", "(II)J"⟩ : MethodName) (head1 (Jvm.Cond.code (⟨"com/example/headwater/headwater/headdriven/EventCounts", "_key", "(II)J"⟩ : MethodName) prog_34_method_2_code 2 (some .long) :: ws) ({ frames := 0, cells := 0, slots := 0, locals := 0 } : Room)) (fun a U => a = #[(.int p1), (.int p2)] ∧ Z.Warmed39 U.vm ∧ U.heap = h0) (fun _ _ _ _ _ => True) (fun _ U o U' => ∃ v L, o = .returned v ∧ QY Z p1 p2 h0 n0 v U'.heap L ∧ FrameEnd U o U' L ({ frames := 0, cells := 0, slots := 0, locals := 0 } : Room).cells ({ frames := 0, cells := 0, slots := 0, locals := 0 } : Room).slots) := by
  refine MetFree.of_bodySF (plainFor_of_name pnY) hisR ?_
  intro p e s m args below meth c s₁ Bd hml0 hP hK
  obtain ⟨rfl, hZ, hh⟩ := hP
  have hx := Bd.exec
  have hby := Bd.bytes
  have hml : c.maxLocals = 2 := hml0
  have hown : s.vm.findClass "com/example/headwater/headwater/headdriven/EventCounts" = some m.cls := findClass_of_methodNamed Bd.named
  have hnm := (name_of_methodNamed Bd.named Bd.method).1
  have X0 : Stand p l e ({ frames := 0, cells := 0, slots := 0, locals := 0 } : Room) s m #[(.int p1), (.int p2)] below meth c s₁ [] 0 0 := Stand.of_body Bd
  have e0 : s₁.heap = h0 := by rw [← hh, Bd.state]; rfl
  have N0 := Fr.nil n0
  have pre0 : ∀ t, Steps p.tables e below (s₁.setTop (mkF m 0 #[.val (.int p1), .val (.int p2)] [])) t → Steps p.tables e below (s₁.setTop (entryFrame m #[(.int p1), (.int p2)] 2)) t := fun t k => castTop (efY m p1 p2) k
  have pre1 : ∀ t_, Steps p.tables e below (s₁.setTop (mkF m 12 #[.val (.int p1), .val (.int p2)] [(.long (((p1.toInt64) <<< ((32 : Int32) &&& 0x3f).toInt64) ||| ((p2.toInt64) &&& (4294967295 : Int64))))])) t_ → Steps p.tables e below (s₁.setTop (entryFrame m #[(.int p1), (.int p2)] 2)) t_ := fun t_ k_ => pre0 t_ (by
      refine XS.iloadN X0.here hx rfl (hb hby dY_0) rfl ?_
      show Steps p.tables e below (s₁.setTop (mkF m 1 #[.val (.int p1), .val (.int p2)] [(.int p1)])) _
      refine XS.i2l X0.here hx rfl (hb hby dY_1) rfl ?_
      show Steps p.tables e below (s₁.setTop (mkF m 2 #[.val (.int p1), .val (.int p2)] [(.long (p1.toInt64))])) _
      refine XS.bipush X0.here hx rfl (hb hby dY_2) ?_
      show Steps p.tables e below (s₁.setTop (mkF m 4 #[.val (.int p1), .val (.int p2)] [(.int (32 : Int32)), (.long (p1.toInt64))])) _
      refine XS.lshl X0.here hx rfl (hb hby dY_4) rfl ?_
      show Steps p.tables e below (s₁.setTop (mkF m 5 #[.val (.int p1), .val (.int p2)] [(.long ((p1.toInt64) <<< ((32 : Int32) &&& 0x3f).toInt64))])) _
      refine XS.iloadN X0.here hx rfl (hb hby dY_5) rfl ?_
      show Steps p.tables e below (s₁.setTop (mkF m 6 #[.val (.int p1), .val (.int p2)] [(.int p2), (.long ((p1.toInt64) <<< ((32 : Int32) &&& 0x3f).toInt64))])) _
      refine XS.i2l X0.here hx rfl (hb hby dY_6) rfl ?_
      show Steps p.tables e below (s₁.setTop (mkF m 7 #[.val (.int p1), .val (.int p2)] [(.long (p2.toInt64)), (.long ((p1.toInt64) <<< ((32 : Int32) &&& 0x3f).toInt64))])) _
      refine X0.ldc2Long hx hown (mvT hZ (hw _ (List.mem_of_getElem? (i := 62) rfl))) (g := (mkF m 7 #[.val (.int p1), .val (.int p2)] [(.long (p2.toInt64)), (.long ((p1.toInt64) <<< ((32 : Int32) &&& 0x3f).toInt64))])) rfl (hb hby dY_7) _ ?_
      show Steps p.tables e below (s₁.setTop (mkF m 10 #[.val (.int p1), .val (.int p2)] [(.long (4294967295 : Int64)), (.long (p2.toInt64)), (.long ((p1.toInt64) <<< ((32 : Int32) &&& 0x3f).toInt64))])) _
      refine XS.land X0.here hx rfl (hb hby dY_10) rfl ?_
      show Steps p.tables e below (s₁.setTop (mkF m 11 #[.val (.int p1), .val (.int p2)] [(.long ((p2.toInt64) &&& (4294967295 : Int64))), (.long ((p1.toInt64) <<< ((32 : Int32) &&& 0x3f).toInt64))])) _
      refine XS.lor X0.here hx rfl (hb hby dY_11) rfl ?_
      show Steps p.tables e below (s₁.setTop (mkF m 12 #[.val (.int p1), .val (.int p2)] [(.long (((p1.toInt64) <<< ((32 : Int32) &&& 0x3f).toInt64) ||| ((p2.toInt64) &&& (4294967295 : Int64))))])) _
      exact k_)
  obtain ⟨fs, hr, hrun, hended, hW, hsame⟩ := X0.leave (v := some (.long (((p1.toInt64) <<< ((32 : Int32) &&& 0x3f).toInt64) ||| ((p2.toInt64) &&& (4294967295 : Int64))))) (fun h => by rw [Bd.returns] at h; cases h)
  refine ⟨_, _, pre1 _ ?_, hrun, hended, _, _, rfl, ?_, ⟨_, rfl⟩, hW, hsame.mono (by decide) (by decide)⟩
  · exact X0.lreturnOut hx Bd.returns (hb hby dY_12) hr
  · show QY Z p1 p2 h0 n0 _ s₁.heap _
    rw [e0]
    exact ⟨rfl, N0, rfl⟩
theorem dW_0 : decode prog_34_method_5_code 0 = .ok (.aload_n 0, 1) := by decide +kernel
theorem dW_1 : decode prog_34_method_5_code 1 = .ok (.getfield 10, 3) := by decide +kernel
theorem dW_4 : decode prog_34_method_5_code 4 = .ok (.lload_n 1, 1) := by decide +kernel
theorem dW_5 : decode prog_34_method_5_code 5 = .ok (.invokevirtual 37, 3) := by decide +kernel
theorem dW_8 : decode prog_34_method_5_code 8 = .ok (.istore_n 3, 1) := by decide +kernel
theorem dW_9 : decode prog_34_method_5_code 9 = .ok (.iload_n 3, 1) := by decide +kernel
theorem dW_10 : decode prog_34_method_5_code 10 = .ok (.iconst 1, 1) := by decide +kernel
theorem dW_11 : decode prog_34_method_5_code 11 = .ok (.iadd, 1) := by decide +kernel
theorem dW_12 : decode prog_34_method_5_code 12 = .ok (.iconst 4, 1) := by decide +kernel
theorem dW_13 : decode prog_34_method_5_code 13 = .ok (.imul, 1) := by decide +kernel
theorem dW_14 : decode prog_34_method_5_code 14 = .ok (.aload_n 0, 1) := by decide +kernel
theorem dW_15 : decode prog_34_method_5_code 15 = .ok (.getfield 16, 3) := by decide +kernel
theorem dW_18 : decode prog_34_method_5_code 18 = .ok (.arraylength, 1) := by decide +kernel
theorem dW_19 : decode prog_34_method_5_code 19 = .ok (.if_icmp .le 21, 3) := by decide +kernel
theorem dW_40 : decode prog_34_method_5_code 40 = .ok (.iload_n 3, 1) := by decide +kernel
theorem dW_41 : decode prog_34_method_5_code 41 = .ok (.ireturn, 1) := by decide +kernel
theorem pdW_0 : parseMethodDescriptor "(J)I" = some ⟨[.long], some .int⟩ := by decide +kernel
theorem pnW : plainName "com/example/headwater/headwater/headdriven/EventCounts" = true := by first | (simp [plainName, overriddenIn]; done) | decide +kernel
theorem efW (m : MethodId) (a1 : Addr) (q2 : Int64) : entryFrame m #[(.ref a1), (.long q2)] 4 = mkF m 0 #[.val (.ref a1), .val (.long q2), .second, .unset] [] := by first | (simp [entryFrame, mkF, argsToLocals, Value.category]; done) | rfl
def QW (Z : State) (a1 : Addr) (q2 : Int64) (nm sl us nc : Addr) (cc : Nat → Value) (M : Int64 → Option Int64) (n : Nat) (h0 : Heap) (n0 : Nat) (v : Option Value) (h : Heap) (L : List Loc) : Prop := v = some (.int (Int32.ofNat n)) ∧ Fr n0 L ∧ Keep h0 h [nm, sl, us] ∧ own_LM Z h nm sl us (own_mput M q2 ((Int32.ofNat n).toInt64)) (n + 1)
set_option maxRecDepth 65536 in
set_option maxHeartbeats 40000000 in
theorem rmW (l : Launch) (Z : State) (a0 : Array Value) (hw : ∀ d ∈ tables_1, d.before a0 Z = true) (ws : List Jvm.Cond) (a1 : Addr) (q2 : Int64) (nm sl us nc : Addr) (cc : Nat → Value) (M : Int64 → Option Int64) (n : Nat) (h0 : Heap) (n0 : Nat) (Z0 : n0 ≤ h0.size) (F1 : Fld Z h0 a1 "com/example/headwater/headwater/headdriven/EventCounts" "m_aNodes" "Lcom/example/headwater/headwater/headdriven/LongMap;" (.ref nm)) (F2 : Fld Z h0 a1 "com/example/headwater/headwater/headdriven/EventCounts" "m_aNodeCounts" "[J" (.ref nc)) (A1 : OArr Z h0 nc .long 64 cc) (LM0 : own_LM Z h0 nm sl us M n) (hn : n < 8) (hq : q2 ≠ own_FREE) (hM : M q2 = none) (d_nm_sl : nm ≠ sl) (d_nm_us : nm ≠ us) (d_sl_us : sl ≠ us) (d_a1_nm : a1 ≠ nm) (d_a1_sl : a1 ≠ sl) (d_a1_us : a1 ≠ us) (d_nc_nm : nc ≠ nm) (d_nc_sl : nc ≠ sl) (d_nc_us : nc ≠ us) (g_nm : n0 ≤ nm) (g_sl : n0 ≤ sl) (g_us : n0 ≤ us) :
    MetFree l (⟨"com/example/headwater/headwater/headdriven/EventCounts", "_node", "(J)I"⟩ : MethodName) (head1 (Jvm.Cond.code (⟨"com/example/headwater/headwater/headdriven/EventCounts", "_node", "(J)I"⟩ : MethodName) prog_34_method_5_code 4 (some .int) :: ws) ({ frames := 4, cells := 0, slots := 0, locals := 63 } : Room)) (fun a U => a = #[(.ref a1), (.long q2)] ∧ Z.Warmed39 U.vm ∧ U.heap = h0) (fun _ _ _ _ _ => True) (fun _ U o U' => ∃ v L, o = .returned v ∧ QW Z a1 q2 nm sl us nc cc M n h0 n0 v U'.heap L ∧ FrameEnd U o U' L ({ frames := 4, cells := 0, slots := 0, locals := 63 } : Room).cells ({ frames := 4, cells := 0, slots := 0, locals := 63 } : Room).slots) := by
  refine MetFree.of_bodySF (plainFor_of_name pnW) hisR ?_
  intro p e s m args below meth c s₁ Bd hml0 hP hK
  obtain ⟨rfl, hZ, hh⟩ := hP
  have hx := Bd.exec
  have hby := Bd.bytes
  have hml : c.maxLocals = 4 := hml0
  have hown : s.vm.findClass "com/example/headwater/headwater/headdriven/EventCounts" = some m.cls := findClass_of_methodNamed Bd.named
  have hnm := (name_of_methodNamed Bd.named Bd.method).1
  have X0 : Stand p l e ({ frames := 4, cells := 0, slots := 0, locals := 63 } : Room) s m #[(.ref a1), (.long q2)] below meth c s₁ [] 0 0 := Stand.of_body Bd
  have e0 : s₁.heap = h0 := by rw [← hh, Bd.state]; rfl
  have N0 := Fr.nil n0
  have pre0 : ∀ t, Steps p.tables e below (s₁.setTop (mkF m 0 #[.val (.ref a1), .val (.long q2), .second, .unset] [])) t → Steps p.tables e below (s₁.setTop (entryFrame m #[(.ref a1), (.long q2)] 4)) t := fun t k => castTop (efW m a1 q2) k
  obtain ⟨T1, X1, e1, st1⟩ := getF X0 hx hZ hown (host := "") (Or.inl (hw _ (List.mem_of_getElem? (i := 46) rfl))) Via.refl e0 F1 (g := (mkF m 1 #[.val (.ref a1), .val (.long q2), .second, .unset] [(.ref a1)])) rfl rfl (hb hby dW_1)
  obtain ⟨cq2, kq2, q2a, q2b, q2c⟩ := isOf hZ e1 LM0.1
  obtain ⟨_, _, ⟨T2, L2, k2, n2⟩, -, X2, ⟨Lc2, hQ2, l2, y2, z2⟩, st2⟩ := X1.virtualBack hx (y := (⟨"com/example/headwater/headwater/headdriven/LongMap", "intern", "(J)I"⟩ : MethodName)) (z := (⟨"com/example/headwater/headwater/headdriven/LongMap", "intern", "(J)I"⟩ : MethodName)) hown (mvT hZ (hw _ (List.mem_of_getElem? (i := 67) rfl))) (mvT hZ (hw _ (List.mem_of_getElem? (i := 68) rfl))) (notFace_of_selects (args := #[]) (mvT hZ (hw _ (List.mem_of_getElem? (i := 70) rfl)))) (mvT hZ (hw _ (List.mem_of_getElem? (i := 70) rfl))) (mvT hZ (hw _ (List.mem_of_getElem? (i := 69) rfl))) (by decide) (backOf (W := 0) (rmT l Z a0 hw [] nm q2 sl us M n h0 n0 Z0 LM0 hn hq d_nm_sl d_nm_us d_sl_us g_nm g_sl g_us hM) hZ (hw _ (List.mem_of_getElem? (i := 71) rfl)) (hw _ (List.mem_of_getElem? (i := 13) rfl)) (by decide) (by decide)) q2a q2c (g := (mkF m 5 #[.val (.ref a1), .val (.long q2), .second, .unset] [(.long q2), (.ref nm)])) rfl (by rw [hml]; rfl) (Steps.refl _) (argsL := [(.long q2)]) (rest := []) (lenOf pdW_0 rfl) rfl (by show 2 * 0 + _ ≤ _; exact Nat.le_of_eq rfl) (hb hby dW_5) (fun _ _ => ⟨rfl, e1, (by decide : 0 + 0 ≤ _), (by decide : 0 + 0 ≤ _)⟩)
  dsimp only [Pt.U, Pt.locs, Pt.cells, Pt.slots] at X2 l2 y2 z2 st2 hQ2
  subst l2 y2 z2
  obtain ⟨rfl, N2q, K2, LM2⟩ := hQ2
  have N2 := Fr.app N0 N2q
  have f3 := F1.keep K2 (ninS d_a1_nm (ninS d_a1_sl (ninS d_a1_us nin0)))
  have f4 := F2.keep K2 (ninS d_a1_nm (ninS d_a1_sl (ninS d_a1_us nin0)))
  have f5 := A1.keep K2 (ninS d_nc_nm (ninS d_nc_sl (ninS d_nc_us nin0)))
  have f6 := LM0.1.keep K2
  have Z2 : n0 ≤ T2.heap.size := Nat.le_trans Z0 K2.1
  have KK2 := (Keep.refl h0 [nm, sl, us]).trans K2 (allS (Or.inl (List.mem_of_getElem? (i := 0) rfl)) (allS (Or.inl (List.mem_of_getElem? (i := 1) rfl)) (allS (Or.inl (List.mem_of_getElem? (i := 2) rfl)) all0)))
  obtain ⟨T7, X7, e7, st7⟩ := getF X2 hx hZ hown (host := "") (Or.inl (hw _ (List.mem_of_getElem? (i := 48) rfl))) Via.refl rfl f4 (g := (mkF m 15 #[.val (.ref a1), .val (.long q2), .second, .val (.int (Int32.ofNat n))] [(.ref a1), (.int (((Int32.ofNat n) + (1 : Int32)) * (4 : Int32)))])) rfl rfl (hb hby dW_15)
  have pre8 : ∀ t_, Steps p.tables e below (T7.setTop (mkF m 41 #[.val (.ref a1), .val (.long q2), .second, .val (.int (Int32.ofNat n))] [(.int (Int32.ofNat n))])) t_ → Steps p.tables e below (s₁.setTop (entryFrame m #[(.ref a1), (.long q2)] 4)) t_ := fun t_ k_ => pre0 t_ (by
      refine XS.aloadN X0.here hx rfl (hb hby dW_0) rfl rfl ?_
      show Steps p.tables e below (s₁.setTop (mkF m 1 #[.val (.ref a1), .val (.long q2), .second, .unset] [(.ref a1)])) _
      refine st1 _ ?_
      show Steps p.tables e below (T1.setTop (mkF m 4 #[.val (.ref a1), .val (.long q2), .second, .unset] [(.ref nm)])) _
      refine XS.lloadN X1.here hx rfl (hb hby dW_4) rfl ?_
      show Steps p.tables e below (T1.setTop (mkF m 5 #[.val (.ref a1), .val (.long q2), .second, .unset] [(.long q2), (.ref nm)])) _
      refine st2.trans ?_
      show Steps p.tables e below (T2.setTop (mkF m 8 #[.val (.ref a1), .val (.long q2), .second, .unset] [(.int (Int32.ofNat n))])) _
      refine XS.istoreN X2.here hx rfl (hb hby dW_8) rfl (l' := #[.val (.ref a1), .val (.long q2), .second, .val (.int (Int32.ofNat n))]) rfl ?_
      show Steps p.tables e below (T2.setTop (mkF m 9 #[.val (.ref a1), .val (.long q2), .second, .val (.int (Int32.ofNat n))] [])) _
      refine XS.iloadN X2.here hx rfl (hb hby dW_9) rfl ?_
      show Steps p.tables e below (T2.setTop (mkF m 10 #[.val (.ref a1), .val (.long q2), .second, .val (.int (Int32.ofNat n))] [(.int (Int32.ofNat n))])) _
      refine XS.iconst X2.here hx rfl (hb hby dW_10) ?_
      show Steps p.tables e below (T2.setTop (mkF m 11 #[.val (.ref a1), .val (.long q2), .second, .val (.int (Int32.ofNat n))] [(.int (1 : Int32)), (.int (Int32.ofNat n))])) _
      refine XS.iadd X2.here hx rfl (hb hby dW_11) rfl ?_
      show Steps p.tables e below (T2.setTop (mkF m 12 #[.val (.ref a1), .val (.long q2), .second, .val (.int (Int32.ofNat n))] [(.int ((Int32.ofNat n) + (1 : Int32)))])) _
      refine XS.iconst X2.here hx rfl (hb hby dW_12) ?_
      show Steps p.tables e below (T2.setTop (mkF m 13 #[.val (.ref a1), .val (.long q2), .second, .val (.int (Int32.ofNat n))] [(.int (4 : Int32)), (.int ((Int32.ofNat n) + (1 : Int32)))])) _
      refine XS.imul X2.here hx rfl (hb hby dW_13) rfl ?_
      show Steps p.tables e below (T2.setTop (mkF m 14 #[.val (.ref a1), .val (.long q2), .second, .val (.int (Int32.ofNat n))] [(.int (((Int32.ofNat n) + (1 : Int32)) * (4 : Int32)))])) _
      refine XS.aloadN X2.here hx rfl (hb hby dW_14) rfl rfl ?_
      show Steps p.tables e below (T2.setTop (mkF m 15 #[.val (.ref a1), .val (.long q2), .second, .val (.int (Int32.ofNat n))] [(.ref a1), (.int (((Int32.ofNat n) + (1 : Int32)) * (4 : Int32)))])) _
      refine st7 _ ?_
      show Steps p.tables e below (T7.setTop (mkF m 18 #[.val (.ref a1), .val (.long q2), .second, .val (.int (Int32.ofNat n))] [(.ref nc), (.int (((Int32.ofNat n) + (1 : Int32)) * (4 : Int32)))])) _
      refine oLen X7 hx hZ e7 f5 (N := (64 : Int32)) rfl (g := (mkF m 18 #[.val (.ref a1), .val (.long q2), .second, .val (.int (Int32.ofNat n))] [(.ref nc), (.int (((Int32.ofNat n) + (1 : Int32)) * (4 : Int32)))])) rfl rfl (hb hby dW_18) _ ?_
      show Steps p.tables e below (T7.setTop (mkF m 19 #[.val (.ref a1), .val (.long q2), .second, .val (.int (Int32.ofNat n))] [(.int (64 : Int32)), (.int (((Int32.ofNat n) + (1 : Int32)) * (4 : Int32)))])) _
      refine XS.icmpYes X7.here hx rfl (pc0 := 19) (pc' := 40) rfl (hb hby dW_19) rfl (flt (own_nlt (a := 64) rfl (own_mulc (c := 4) rfl (own_addc (c := 1) rfl (own_ofNat (by omega)) (by omega) (by decide)) (by omega) (by decide)) (by omega) : ¬ ((64 : Int32) < (((Int32.ofNat n) + (1 : Int32)) * (4 : Int32))))).2.2.2 (by decide) (by decide) ?_
      show Steps p.tables e below (T7.setTop (mkF m 40 #[.val (.ref a1), .val (.long q2), .second, .val (.int (Int32.ofNat n))] [])) _
      refine XS.iloadN X7.here hx rfl (hb hby dW_40) rfl ?_
      show Steps p.tables e below (T7.setTop (mkF m 41 #[.val (.ref a1), .val (.long q2), .second, .val (.int (Int32.ofNat n))] [(.int (Int32.ofNat n))])) _
      exact k_)
  obtain ⟨fs, hr, hrun, hended, hW, hsame⟩ := X7.leave (v := some (.int (Int32.ofNat n))) (fun h => by rw [Bd.returns] at h; cases h)
  refine ⟨_, _, pre8 _ ?_, hrun, hended, _, _, rfl, ?_, ⟨_, rfl⟩, hW, hsame.mono (by decide) (by decide)⟩
  · exact retI X7 hx Bd.returns (hb hby dW_41) hr
  · show QW Z a1 q2 nm sl us nc cc M n h0 n0 _ T7.heap _
    rw [e7]
    exact ⟨rfl, N2, KK2, LM2⟩
theorem dX_0 : decode prog_34_method_3_code 0 = .ok (.aload_n 0, 1) := by decide +kernel
theorem dX_1 : decode prog_34_method_3_code 1 = .ok (.iconst (-1), 1) := by decide +kernel
theorem dX_2 : decode prog_34_method_3_code 2 = .ok (.aload_n 0, 1) := by decide +kernel
theorem dX_3 : decode prog_34_method_3_code 3 = .ok (.dup, 1) := by decide +kernel
theorem dX_4 : decode prog_34_method_3_code 4 = .ok (.getfield 25, 3) := by decide +kernel
theorem dX_7 : decode prog_34_method_3_code 7 = .ok (.dup_x1, 1) := by decide +kernel
theorem dX_8 : decode prog_34_method_3_code 8 = .ok (.iconst 1, 1) := by decide +kernel
theorem dX_9 : decode prog_34_method_3_code 9 = .ok (.iadd, 1) := by decide +kernel
theorem dX_10 : decode prog_34_method_3_code 10 = .ok (.putfield 25, 3) := by decide +kernel
theorem dX_13 : decode prog_34_method_3_code 13 = .ok (.invokestatic 29, 3) := by decide +kernel
theorem dX_16 : decode prog_34_method_3_code 16 = .ok (.invokevirtual 33, 3) := by decide +kernel
theorem dX_19 : decode prog_34_method_3_code 19 = .ok (.ireturn, 1) := by decide +kernel
theorem pdX_0 : parseMethodDescriptor "(II)J" = some ⟨[.int, .int], some .long⟩ := by decide +kernel
theorem pdX_1 : parseMethodDescriptor "(J)I" = some ⟨[.long], some .int⟩ := by decide +kernel
theorem pnX : plainName "com/example/headwater/headwater/headdriven/EventCounts" = true := by first | (simp [plainName, overriddenIn]; done) | decide +kernel
theorem efX (m : MethodId) (a1 : Addr) : entryFrame m #[(.ref a1)] 1 = mkF m 0 #[.val (.ref a1)] [] := by first | (simp [entryFrame, mkF, argsToLocals, Value.category]; done) | rfl
def QX (Z : State) (a1 : Addr) (r : Int32) (nm sl us nc pm : Addr) (cc : Nat → Value) (M : Int64 → Option Int64) (n : Nat) (h0 : Heap) (n0 : Nat) (v : Option Value) (h : Heap) (L : List Loc) : Prop := v = some (.int (Int32.ofNat n)) ∧ Fr n0 L ∧ Keep h0 h [a1, nm, sl, us] ∧ own_LM Z h nm sl us (own_mput M (own_key (-1 : Int32) r) ((Int32.ofNat n).toInt64)) (n + 1) ∧ Fld Z h a1 "com/example/headwater/headwater/headdriven/EventCounts" "m_nRoots" "I" (.int (r + (1 : Int32))) ∧ Fld Z h a1 "com/example/headwater/headwater/headdriven/EventCounts" "m_aNodes" "Lcom/example/headwater/headwater/headdriven/LongMap;" (.ref nm) ∧ Fld Z h a1 "com/example/headwater/headwater/headdriven/EventCounts" "m_aNodeCounts" "[J" (.ref nc) ∧ Fld Z h a1 "com/example/headwater/headwater/headdriven/EventCounts" "m_aPairs" "Lcom/example/headwater/headwater/headdriven/LongMap;" (.ref pm)
set_option maxRecDepth 65536 in
set_option maxHeartbeats 40000000 in
theorem rmX (l : Launch) (Z : State) (a0 : Array Value) (hw : ∀ d ∈ tables_1, d.before a0 Z = true) (ws : List Jvm.Cond) (a1 : Addr) (r : Int32) (nm sl us nc pm : Addr) (cc : Nat → Value) (M : Int64 → Option Int64) (n : Nat) (h0 : Heap) (n0 : Nat) (Z0 : n0 ≤ h0.size) (E1 : Exa Z h0 a1 "com/example/headwater/headwater/headdriven/EventCounts") (F0 : Fld Z h0 a1 "com/example/headwater/headwater/headdriven/EventCounts" "m_nRoots" "I" (.int r)) (F1 : Fld Z h0 a1 "com/example/headwater/headwater/headdriven/EventCounts" "m_aNodes" "Lcom/example/headwater/headwater/headdriven/LongMap;" (.ref nm)) (F2 : Fld Z h0 a1 "com/example/headwater/headwater/headdriven/EventCounts" "m_aNodeCounts" "[J" (.ref nc)) (F3 : Fld Z h0 a1 "com/example/headwater/headwater/headdriven/EventCounts" "m_aPairs" "Lcom/example/headwater/headwater/headdriven/LongMap;" (.ref pm)) (A1 : OArr Z h0 nc .long 64 cc) (LM0 : own_LM Z h0 nm sl us M n) (hn : n < 8) (hq : own_key (-1 : Int32) r ≠ own_FREE) (hM : M (own_key (-1 : Int32) r) = none) (d_nm_sl : nm ≠ sl) (d_nm_us : nm ≠ us) (d_sl_us : sl ≠ us) (d_a1_nm : a1 ≠ nm) (d_a1_sl : a1 ≠ sl) (d_a1_us : a1 ≠ us) (d_nc_nm : nc ≠ nm) (d_nc_sl : nc ≠ sl) (d_nc_us : nc ≠ us) (d_a1_nc : a1 ≠ nc) (g_a1 : n0 ≤ a1) (g_nm : n0 ≤ nm) (g_sl : n0 ≤ sl) (g_us : n0 ≤ us) :
    MetFree l (⟨"com/example/headwater/headwater/headdriven/EventCounts", "addRoot", "()I"⟩ : MethodName) (head1 (Jvm.Cond.code (⟨"com/example/headwater/headwater/headdriven/EventCounts", "addRoot", "()I"⟩ : MethodName) prog_34_method_3_code 1 (some .int) :: ws) ({ frames := 5, cells := 0, slots := 0, locals := 78 } : Room)) (fun a U => a = #[(.ref a1)] ∧ Z.Warmed39 U.vm ∧ U.heap = h0) (fun _ _ _ _ _ => True) (fun _ U o U' => ∃ v L, o = .returned v ∧ QX Z a1 r nm sl us nc pm cc M n h0 n0 v U'.heap L ∧ FrameEnd U o U' L ({ frames := 5, cells := 0, slots := 0, locals := 78 } : Room).cells ({ frames := 5, cells := 0, slots := 0, locals := 78 } : Room).slots) := by
  refine MetFree.of_bodySF (plainFor_of_name pnX) hisR ?_
  intro p e s m args below meth c s₁ Bd hml0 hP hK
  obtain ⟨rfl, hZ, hh⟩ := hP
  have hx := Bd.exec
  have hby := Bd.bytes
  have hml : c.maxLocals = 1 := hml0
  have hown : s.vm.findClass "com/example/headwater/headwater/headdriven/EventCounts" = some m.cls := findClass_of_methodNamed Bd.named
  have hnm := (name_of_methodNamed Bd.named Bd.method).1
  have X0 : Stand p l e ({ frames := 5, cells := 0, slots := 0, locals := 78 } : Room) s m #[(.ref a1)] below meth c s₁ [] 0 0 := Stand.of_body Bd
  have e0 : s₁.heap = h0 := by rw [← hh, Bd.state]; rfl
  have N0 := Fr.nil n0
  have pre0 : ∀ t, Steps p.tables e below (s₁.setTop (mkF m 0 #[.val (.ref a1)] [])) t → Steps p.tables e below (s₁.setTop (entryFrame m #[(.ref a1)] 1)) t := fun t k => castTop (efX m a1) k
  obtain ⟨T1, X1, e1, st1⟩ := getF X0 hx hZ hown (host := "") (Or.inl (hw _ (List.mem_of_getElem? (i := 57) rfl))) Via.refl e0 F0 (g := (mkF m 4 #[.val (.ref a1)] [(.ref a1), (.ref a1), (.int (-1 : Int32)), (.ref a1)])) rfl rfl (hb hby dX_4)
  obtain ⟨T2, h2, X2, e2, W2, st2⟩ := putF X1 hx hZ hown (host := "") (Or.inl (hw _ (List.mem_of_getElem? (i := 57) rfl))) Via.refl e1 F0 E1 (Or.inl (hw _ (List.mem_of_getElem? (i := 58) rfl))) (hw _ (List.mem_of_getElem? (i := 3) rfl)) (ty := .int) (by decide) rfl rfl (g := (mkF m 10 #[.val (.ref a1)] [(.int (r + (1 : Int32))), (.ref a1), (.int r), (.int (-1 : Int32)), (.ref a1)])) rfl rfl (hb hby dX_10)
  have Fw2 := F0.same W2
  have f3 := E1.wr W2
  have f4 := F1.other W2 (Or.inr (slot_ne (Or.inr (hw _ (List.mem_of_getElem? (i := 47) rfl))) (Or.inl (hw _ (List.mem_of_getElem? (i := 58) rfl))) (by decide) (t := (.object "com/example/headwater/headwater/headdriven/LongMap")) (t' := .int) (by decide) (by decide)))
  have f5 := F2.other W2 (Or.inr (slot_ne (Or.inl (hw _ (List.mem_of_getElem? (i := 49) rfl))) (Or.inl (hw _ (List.mem_of_getElem? (i := 58) rfl))) (by decide) (t := (.array .long)) (t' := .int) (by decide) (by decide)))
  have f6 := F3.other W2 (Or.inr (slot_ne (Or.inr (hw _ (List.mem_of_getElem? (i := 51) rfl))) (Or.inl (hw _ (List.mem_of_getElem? (i := 58) rfl))) (by decide) (t := (.object "com/example/headwater/headwater/headdriven/LongMap")) (t' := .int) (by decide) (by decide)))
  have f7 := A1.other W2 (Ne.symm d_a1_nc)
  have f8 := LM0.other W2 (Ne.symm d_a1_nm) (Ne.symm d_a1_sl) (Ne.symm d_a1_us)
  have N2 := Fr.snoc X2 N0 g_a1
  have K2 := (Keep.refl h0 [a1, nm, sl, us]).wr W2 (Or.inl (List.mem_of_getElem? (i := 0) rfl))
  have Z2 : n0 ≤ h2.size := Nat.le_trans Z0 (Keep.of_wr W2).1
  obtain ⟨_, _, ⟨T9, L9, k9, n9⟩, -, X9, ⟨Lc9, hQ9, l9, y9, z9⟩, st9⟩ := Jvm.LawKit.callS X2 hx (y := (⟨"com/example/headwater/headwater/headdriven/EventCounts", "_key", "(II)J"⟩ : MethodName)) hown (mvT hZ (hw _ (List.mem_of_getElem? (i := 59) rfl))) (mvT hZ (hw _ (List.mem_of_getElem? (i := 60) rfl))) (mvT hZ (hw _ (List.mem_of_getElem? (i := 4) rfl))) (mvT hZ (hw _ (List.mem_of_getElem? (i := 61) rfl))) (by decide) (backOf (W := 1) (rmY l Z a0 hw [] ((-1 : Int32)) r  h2 n0 Z2) hZ (hw _ (List.mem_of_getElem? (i := 61) rfl)) (hw _ (List.mem_of_getElem? (i := 4) rfl)) (by decide) (by decide)) (g := (mkF m 13 #[.val (.ref a1)] [(.int r), (.int (-1 : Int32)), (.ref a1)])) rfl (by rw [hml]; rfl) (argsL := [(.int (-1 : Int32)), (.int r)]) (rest := [(.ref a1)]) (lenOf pdX_0 rfl) rfl (by show 2 * 0 + _ ≤ _; exact Nat.le_of_eq rfl) (hb hby dX_13) (fun _ _ => ⟨rfl, e2, (by decide : 0 + 0 ≤ _), (by decide : 0 + 0 ≤ _)⟩)
  dsimp only [Pt.U, Pt.locs, Pt.cells, Pt.slots] at X9 l9 y9 z9 st9 hQ9
  subst l9 y9 z9
  obtain ⟨rfl, N9q, e9⟩ := hQ9
  have N9 := Fr.app N2 N9q
  obtain ⟨cq10, q10, q10'⟩ := f3.cell
  obtain ⟨_, _, ⟨T10, L10, k10, n10⟩, -, X10, ⟨Lc10, hQ10, l10, y10, z10⟩, st10⟩ := X9.privateBack hx (y := (⟨"com/example/headwater/headwater/headdriven/EventCounts", "_node", "(J)I"⟩ : MethodName)) hown (mvT hZ (hw _ (List.mem_of_getElem? (i := 63) rfl))) (mvT hZ (hw _ (List.mem_of_getElem? (i := 64) rfl))) (own_sel (y := (⟨"com/example/headwater/headwater/headdriven/EventCounts", "_node", "(J)I"⟩ : MethodName)) hZ (hw _ (List.mem_of_getElem? (i := 3) rfl)) (hw _ (List.mem_of_getElem? (i := 64) rfl)) (hw _ (List.mem_of_getElem? (i := 65) rfl)) (by decide)) (Cond.privateMethod_at (mvP hZ (hw _ (List.mem_of_getElem? (i := 65) rfl)) (args := #[]))) (mvT hZ (hw _ (List.mem_of_getElem? (i := 66) rfl))) (by decide) (backOf (W := 0) (rmW l Z a0 hw [] a1 ((own_key (-1 : Int32) r)) nm sl us nc cc M n h2 n0 Z2 f4 f5 f7 f8 hn hq hM d_nm_sl d_nm_us d_sl_us d_a1_nm d_a1_sl d_a1_us d_nc_nm d_nc_sl d_nc_us g_nm g_sl g_us) hZ (hw _ (List.mem_of_getElem? (i := 66) rfl)) (hw _ (List.mem_of_getElem? (i := 4) rfl)) (by decide) (by decide)) (g := (mkF m 16 #[.val (.ref a1)] [(.long (own_key (-1 : Int32) r)), (.ref a1)])) rfl (by rw [hml]; rfl) (Steps.refl _) (a := a1) (by rw [e9]; exact q10) q10' (argsL := [(.long (own_key (-1 : Int32) r))]) (rest := []) (lenOf pdX_1 rfl) rfl (by show 2 * 0 + _ ≤ _; exact Nat.le_of_eq rfl) (hb hby dX_16) (fun _ _ => ⟨rfl, e9, (by decide : 0 + 0 ≤ _), (by decide : 0 + 0 ≤ _)⟩)
  dsimp only [Pt.U, Pt.locs, Pt.cells, Pt.slots] at X10 l10 y10 z10 st10 hQ10
  subst l10 y10 z10
  obtain ⟨rfl, N10q, K10, LM10⟩ := hQ10
  have N10 := Fr.app N9 N10q
  have f11 := f3.keep K10
  have f12 := Fw2.keep K10 (ninS d_a1_nm (ninS d_a1_sl (ninS d_a1_us nin0)))
  have f13 := f4.keep K10 (ninS d_a1_nm (ninS d_a1_sl (ninS d_a1_us nin0)))
  have f14 := f5.keep K10 (ninS d_a1_nm (ninS d_a1_sl (ninS d_a1_us nin0)))
  have f15 := f6.keep K10 (ninS d_a1_nm (ninS d_a1_sl (ninS d_a1_us nin0)))
  have f16 := f7.keep K10 (ninS d_nc_nm (ninS d_nc_sl (ninS d_nc_us nin0)))
  have Z10 : n0 ≤ T10.heap.size := Nat.le_trans Z2 K10.1
  have KK10 := K2.trans K10 (allS (Or.inl (List.mem_of_getElem? (i := 1) rfl)) (allS (Or.inl (List.mem_of_getElem? (i := 2) rfl)) (allS (Or.inl (List.mem_of_getElem? (i := 3) rfl)) all0)))
  have pre17 : ∀ t_, Steps p.tables e below (T10.setTop (mkF m 19 #[.val (.ref a1)] [(.int (Int32.ofNat n))])) t_ → Steps p.tables e below (s₁.setTop (entryFrame m #[(.ref a1)] 1)) t_ := fun t_ k_ => pre0 t_ (by
      refine XS.aloadN X0.here hx rfl (hb hby dX_0) rfl rfl ?_
      show Steps p.tables e below (s₁.setTop (mkF m 1 #[.val (.ref a1)] [(.ref a1)])) _
      refine XS.iconst X0.here hx rfl (hb hby dX_1) ?_
      show Steps p.tables e below (s₁.setTop (mkF m 2 #[.val (.ref a1)] [(.int (-1 : Int32)), (.ref a1)])) _
      refine XS.aloadN X0.here hx rfl (hb hby dX_2) rfl rfl ?_
      show Steps p.tables e below (s₁.setTop (mkF m 3 #[.val (.ref a1)] [(.ref a1), (.int (-1 : Int32)), (.ref a1)])) _
      refine XS.dup X0.here hx rfl (hb hby dX_3) rfl rfl ?_
      show Steps p.tables e below (s₁.setTop (mkF m 4 #[.val (.ref a1)] [(.ref a1), (.ref a1), (.int (-1 : Int32)), (.ref a1)])) _
      refine st1 _ ?_
      show Steps p.tables e below (T1.setTop (mkF m 7 #[.val (.ref a1)] [(.int r), (.ref a1), (.int (-1 : Int32)), (.ref a1)])) _
      refine XS.dupX1 X1.here hx rfl (hb hby dX_7) rfl rfl rfl ?_
      show Steps p.tables e below (T1.setTop (mkF m 8 #[.val (.ref a1)] [(.int r), (.ref a1), (.int r), (.int (-1 : Int32)), (.ref a1)])) _
      refine XS.iconst X1.here hx rfl (hb hby dX_8) ?_
      show Steps p.tables e below (T1.setTop (mkF m 9 #[.val (.ref a1)] [(.int (1 : Int32)), (.int r), (.ref a1), (.int r), (.int (-1 : Int32)), (.ref a1)])) _
      refine XS.iadd X1.here hx rfl (hb hby dX_9) rfl ?_
      show Steps p.tables e below (T1.setTop (mkF m 10 #[.val (.ref a1)] [(.int (r + (1 : Int32))), (.ref a1), (.int r), (.int (-1 : Int32)), (.ref a1)])) _
      refine st2 _ ?_
      show Steps p.tables e below (T2.setTop (mkF m 13 #[.val (.ref a1)] [(.int r), (.int (-1 : Int32)), (.ref a1)])) _
      refine st9 _ ?_
      show Steps p.tables e below (T9.setTop (mkF m 16 #[.val (.ref a1)] [(.long (own_key (-1 : Int32) r)), (.ref a1)])) _
      refine st10.trans ?_
      show Steps p.tables e below (T10.setTop (mkF m 19 #[.val (.ref a1)] [(.int (Int32.ofNat n))])) _
      exact k_)
  obtain ⟨fs, hr, hrun, hended, hW, hsame⟩ := X10.leave (v := some (.int (Int32.ofNat n))) (fun h => by rw [Bd.returns] at h; cases h)
  refine ⟨_, _, pre17 _ ?_, hrun, hended, _, _, rfl, ?_, ⟨_, rfl⟩, hW, hsame.mono (by decide) (by decide)⟩
  · exact retI X10 hx Bd.returns (hb hby dX_19) hr
  · show QX Z a1 r nm sl us nc pm cc M n h0 n0 _ T10.heap _
    exact ⟨rfl, N10, KK10, LM10, f12, f13, f14, f15⟩
theorem own_ladd {x y : Int64} (h1 : 0 ≤ x.toInt) (h2 : 0 ≤ y.toInt) (h3 : x.toInt + y.toInt < 9223372036854775808) : (x + y).toInt = x.toInt + y.toInt := by
  rw [Int64.toInt_add, Int.bmod_def]; omega
theorem own_noover {x y : Int64} (h1 : 0 ≤ x.toInt) (h2 : 0 ≤ y.toInt) (h3 : x.toInt + y.toInt < 9223372036854775808) : ¬ lcmpW ((x ^^^ (x + y)) &&& (y ^^^ (x + y))) (0 : Int64) < (0 : Int32) := by
  have e := own_ladd h1 h2 h3
  have q1 := (c_xorSL x (x + y)).2.2.2 h1 (by omega)
  have q2 := (c_andSL (x ^^^ (x + y)) (y ^^^ (x + y))).2.1 q1
  exact fun z => absurd (own_lclt.mp z) (by show ¬ _ < (0 : Int); omega)
theorem dAE_0 : decode jdk_29_method_25_code 0 = .ok (.lload_n 0, 1) := by decide +kernel
theorem dAE_1 : decode jdk_29_method_25_code 1 = .ok (.lload_n 2, 1) := by decide +kernel
theorem dAE_2 : decode jdk_29_method_25_code 2 = .ok (.ladd, 1) := by decide +kernel
theorem dAE_3 : decode jdk_29_method_25_code 3 = .ok (.lstore 4, 2) := by decide +kernel
theorem dAE_5 : decode jdk_29_method_25_code 5 = .ok (.lload_n 0, 1) := by decide +kernel
theorem dAE_6 : decode jdk_29_method_25_code 6 = .ok (.lload 4, 2) := by decide +kernel
theorem dAE_8 : decode jdk_29_method_25_code 8 = .ok (.lxor, 1) := by decide +kernel
theorem dAE_9 : decode jdk_29_method_25_code 9 = .ok (.lload_n 2, 1) := by decide +kernel
theorem dAE_10 : decode jdk_29_method_25_code 10 = .ok (.lload 4, 2) := by decide +kernel
theorem dAE_12 : decode jdk_29_method_25_code 12 = .ok (.lxor, 1) := by decide +kernel
theorem dAE_13 : decode jdk_29_method_25_code 13 = .ok (.land, 1) := by decide +kernel
theorem dAE_14 : decode jdk_29_method_25_code 14 = .ok (.lconst 0, 1) := by decide +kernel
theorem dAE_15 : decode jdk_29_method_25_code 15 = .ok (.lcmp, 1) := by decide +kernel
theorem dAE_16 : decode jdk_29_method_25_code 16 = .ok (.ifCond .ge 13, 3) := by decide +kernel
theorem dAE_29 : decode jdk_29_method_25_code 29 = .ok (.lload 4, 2) := by decide +kernel
theorem dAE_31 : decode jdk_29_method_25_code 31 = .ok (.lreturn, 1) := by decide +kernel
theorem efAE (m : MethodId) (q1 : Int64) (q2 : Int64) : entryFrame m #[(.long q1), (.long q2)] 6 = mkF m 0 #[.val (.long q1), .second, .val (.long q2), .second, .unset, .unset] [] := by first | (simp [entryFrame, mkF, argsToLocals, Value.category]; done) | rfl
def QAE (Z : State) (q1 q2 : Int64) (h0 : Heap) (n0 : Nat) (v : Option Value) (h : Heap) (L : List Loc) : Prop := v = some (.long (q1 + q2)) ∧ Fr n0 L ∧ h = h0
set_option maxRecDepth 65536 in
set_option maxHeartbeats 40000000 in
theorem rmAE (l : Launch) (Z : State) (a0 : Array Value) (hw : ∀ d ∈ tables_1, d.before a0 Z = true) (ws : List Jvm.Cond) (q1 q2 : Int64) (h0 : Heap) (n0 : Nat) (Z0 : n0 ≤ h0.size) (h1 : 0 ≤ q1.toInt) (h2 : 0 ≤ q2.toInt) (h3 : q1.toInt + q2.toInt < 9223372036854775808) :
    MetFree l (⟨"java/lang/Math", "addExact", "(JJ)J"⟩ : MethodName) (head1 (Jvm.Cond.code (⟨"java/lang/Math", "addExact", "(JJ)J"⟩ : MethodName) jdk_29_method_25_code 6 (some .long) :: ws) ({ frames := 0, cells := 0, slots := 0, locals := 0 } : Room)) (fun a U => a = #[(.long q1), (.long q2)] ∧ Z.Warmed39 U.vm ∧ U.heap = h0) (fun _ _ _ _ _ => True) (fun _ U o U' => ∃ v L, o = .returned v ∧ QAE Z q1 q2 h0 n0 v U'.heap L ∧ FrameEnd U o U' L ({ frames := 0, cells := 0, slots := 0, locals := 0 } : Room).cells ({ frames := 0, cells := 0, slots := 0, locals := 0 } : Room).slots) := by
  refine MetFree.of_bodySF (Jvm.Free.JP.mathPlain rfl (by decide +kernel)) hisR ?_
  intro p e s m args below meth c s₁ Bd hml0 hP hK
  obtain ⟨rfl, hZ, hh⟩ := hP
  have hx := Bd.exec
  have hby := Bd.bytes
  have hml : c.maxLocals = 6 := hml0
  have hown : s.vm.findClass "java/lang/Math" = some m.cls := findClass_of_methodNamed Bd.named
  have hnm := (name_of_methodNamed Bd.named Bd.method).1
  have X0 : Stand p l e ({ frames := 0, cells := 0, slots := 0, locals := 0 } : Room) s m #[(.long q1), (.long q2)] below meth c s₁ [] 0 0 := Stand.of_body Bd
  have e0 : s₁.heap = h0 := by rw [← hh, Bd.state]; rfl
  have N0 := Fr.nil n0
  have pre0 : ∀ t, Steps p.tables e below (s₁.setTop (mkF m 0 #[.val (.long q1), .second, .val (.long q2), .second, .unset, .unset] [])) t → Steps p.tables e below (s₁.setTop (entryFrame m #[(.long q1), (.long q2)] 6)) t := fun t k => castTop (efAE m q1 q2) k
  have pre1 : ∀ t_, Steps p.tables e below (s₁.setTop (mkF m 31 #[.val (.long q1), .second, .val (.long q2), .second, .val (.long (q1 + q2)), .second] [(.long (q1 + q2))])) t_ → Steps p.tables e below (s₁.setTop (entryFrame m #[(.long q1), (.long q2)] 6)) t_ := fun t_ k_ => pre0 t_ (by
      refine XS.lloadN X0.here hx rfl (hb hby dAE_0) rfl ?_
      show Steps p.tables e below (s₁.setTop (mkF m 1 #[.val (.long q1), .second, .val (.long q2), .second, .unset, .unset] [(.long q1)])) _
      refine XS.lloadN X0.here hx rfl (hb hby dAE_1) rfl ?_
      show Steps p.tables e below (s₁.setTop (mkF m 2 #[.val (.long q1), .second, .val (.long q2), .second, .unset, .unset] [(.long q2), (.long q1)])) _
      refine XS.ladd X0.here hx rfl (hb hby dAE_2) rfl ?_
      show Steps p.tables e below (s₁.setTop (mkF m 3 #[.val (.long q1), .second, .val (.long q2), .second, .unset, .unset] [(.long (q1 + q2))])) _
      refine XS.lstore X0.here hx rfl (hb hby dAE_3) rfl (l' := #[.val (.long q1), .second, .val (.long q2), .second, .val (.long (q1 + q2)), .second]) rfl ?_
      show Steps p.tables e below (s₁.setTop (mkF m 5 #[.val (.long q1), .second, .val (.long q2), .second, .val (.long (q1 + q2)), .second] [])) _
      refine XS.lloadN X0.here hx rfl (hb hby dAE_5) rfl ?_
      show Steps p.tables e below (s₁.setTop (mkF m 6 #[.val (.long q1), .second, .val (.long q2), .second, .val (.long (q1 + q2)), .second] [(.long q1)])) _
      refine XS.lload X0.here hx rfl (hb hby dAE_6) rfl ?_
      show Steps p.tables e below (s₁.setTop (mkF m 8 #[.val (.long q1), .second, .val (.long q2), .second, .val (.long (q1 + q2)), .second] [(.long (q1 + q2)), (.long q1)])) _
      refine XS.lxor X0.here hx rfl (hb hby dAE_8) rfl ?_
      show Steps p.tables e below (s₁.setTop (mkF m 9 #[.val (.long q1), .second, .val (.long q2), .second, .val (.long (q1 + q2)), .second] [(.long (q1 ^^^ (q1 + q2)))])) _
      refine XS.lloadN X0.here hx rfl (hb hby dAE_9) rfl ?_
      show Steps p.tables e below (s₁.setTop (mkF m 10 #[.val (.long q1), .second, .val (.long q2), .second, .val (.long (q1 + q2)), .second] [(.long q2), (.long (q1 ^^^ (q1 + q2)))])) _
      refine XS.lload X0.here hx rfl (hb hby dAE_10) rfl ?_
      show Steps p.tables e below (s₁.setTop (mkF m 12 #[.val (.long q1), .second, .val (.long q2), .second, .val (.long (q1 + q2)), .second] [(.long (q1 + q2)), (.long q2), (.long (q1 ^^^ (q1 + q2)))])) _
      refine XS.lxor X0.here hx rfl (hb hby dAE_12) rfl ?_
      show Steps p.tables e below (s₁.setTop (mkF m 13 #[.val (.long q1), .second, .val (.long q2), .second, .val (.long (q1 + q2)), .second] [(.long (q2 ^^^ (q1 + q2))), (.long (q1 ^^^ (q1 + q2)))])) _
      refine XS.land X0.here hx rfl (hb hby dAE_13) rfl ?_
      show Steps p.tables e below (s₁.setTop (mkF m 14 #[.val (.long q1), .second, .val (.long q2), .second, .val (.long (q1 + q2)), .second] [(.long ((q1 ^^^ (q1 + q2)) &&& (q2 ^^^ (q1 + q2))))])) _
      refine XS.lconst X0.here hx rfl (hb hby dAE_14) ?_
      show Steps p.tables e below (s₁.setTop (mkF m 15 #[.val (.long q1), .second, .val (.long q2), .second, .val (.long (q1 + q2)), .second] [(.long (0 : Int64)), (.long ((q1 ^^^ (q1 + q2)) &&& (q2 ^^^ (q1 + q2))))])) _
      refine XS.lcmp X0.here hx rfl (hb hby dAE_15) rfl ?_
      show Steps p.tables e below (s₁.setTop (mkF m 16 #[.val (.long q1), .second, .val (.long q2), .second, .val (.long (q1 + q2)), .second] [(.int (lcmpW ((q1 ^^^ (q1 + q2)) &&& (q2 ^^^ (q1 + q2))) (0 : Int64)))])) _
      refine XS.ifYes X0.here hx rfl (pc0 := 16) (pc' := 29) rfl (hb hby dAE_16) rfl ((if0 _ _).trans (flt (own_noover h1 h2 h3 : ¬ ((lcmpW ((q1 ^^^ (q1 + q2)) &&& (q2 ^^^ (q1 + q2))) (0 : Int64)) < (0 : Int32)))).2.1) (by decide) (by decide) ?_
      show Steps p.tables e below (s₁.setTop (mkF m 29 #[.val (.long q1), .second, .val (.long q2), .second, .val (.long (q1 + q2)), .second] [])) _
      refine XS.lload X0.here hx rfl (hb hby dAE_29) rfl ?_
      show Steps p.tables e below (s₁.setTop (mkF m 31 #[.val (.long q1), .second, .val (.long q2), .second, .val (.long (q1 + q2)), .second] [(.long (q1 + q2))])) _
      exact k_)
  obtain ⟨fs, hr, hrun, hended, hW, hsame⟩ := X0.leave (v := some (.long (q1 + q2))) (fun h => by rw [Bd.returns] at h; cases h)
  refine ⟨_, _, pre1 _ ?_, hrun, hended, _, _, rfl, ?_, ⟨_, rfl⟩, hW, hsame.mono (by decide) (by decide)⟩
  · exact X0.lreturnOut hx Bd.returns (hb hby dAE_31) hr
  · show QAE Z q1 q2 h0 n0 _ s₁.heap _
    rw [e0]
    exact ⟨rfl, N0, rfl⟩
def own_max (x y : Int64) : Int64 := if lcmpW x y < (0 : Int32) then y else x
theorem own_max_int (x y : Int64) : (own_max x y).toInt = if x.toInt < y.toInt then y.toInt else x.toInt := by
  unfold own_max
  by_cases q : x.toInt < y.toInt
  · rw [if_pos (own_lclt.mpr q), if_pos q]
  · rw [if_neg (fun z => q (own_lclt.mp z)), if_neg q]
theorem dMX_0 : decode jdk_29_method_66_code 0 = .ok (.lload_n 0, 1) := by decide +kernel
theorem dMX_1 : decode jdk_29_method_66_code 1 = .ok (.lload_n 2, 1) := by decide +kernel
theorem dMX_2 : decode jdk_29_method_66_code 2 = .ok (.lcmp, 1) := by decide +kernel
theorem dMX_3 : decode jdk_29_method_66_code 3 = .ok (.ifCond .lt 7, 3) := by decide +kernel
theorem dMX_6 : decode jdk_29_method_66_code 6 = .ok (.lload_n 0, 1) := by decide +kernel
theorem dMX_7 : decode jdk_29_method_66_code 7 = .ok (.goto 4, 3) := by decide +kernel
theorem dMX_10 : decode jdk_29_method_66_code 10 = .ok (.lload_n 2, 1) := by decide +kernel
theorem dMX_11 : decode jdk_29_method_66_code 11 = .ok (.lreturn, 1) := by decide +kernel
theorem efMX (m : MethodId) (q1 : Int64) (q2 : Int64) : entryFrame m #[(.long q1), (.long q2)] 4 = mkF m 0 #[.val (.long q1), .second, .val (.long q2), .second] [] := by first | (simp [entryFrame, mkF, argsToLocals, Value.category]; done) | rfl
def QMX (Z : State) (q1 q2 : Int64) (h0 : Heap) (n0 : Nat) (v : Option Value) (h : Heap) (L : List Loc) : Prop := v = some (.long (own_max q1 q2)) ∧ Fr n0 L ∧ h = h0
set_option maxRecDepth 65536 in
set_option maxHeartbeats 40000000 in
theorem rmMX (l : Launch) (Z : State) (a0 : Array Value) (hw : ∀ d ∈ tables_1, d.before a0 Z = true) (ws : List Jvm.Cond) (q1 q2 : Int64) (h0 : Heap) (n0 : Nat) (Z0 : n0 ≤ h0.size) :
    MetFree l (⟨"java/lang/Math", "max", "(JJ)J"⟩ : MethodName) (head1 (Jvm.Cond.code (⟨"java/lang/Math", "max", "(JJ)J"⟩ : MethodName) jdk_29_method_66_code 4 (some .long) :: ws) ({ frames := 0, cells := 0, slots := 0, locals := 0 } : Room)) (fun a U => a = #[(.long q1), (.long q2)] ∧ Z.Warmed39 U.vm ∧ U.heap = h0) (fun _ _ _ _ _ => True) (fun _ U o U' => ∃ v L, o = .returned v ∧ QMX Z q1 q2 h0 n0 v U'.heap L ∧ FrameEnd U o U' L ({ frames := 0, cells := 0, slots := 0, locals := 0 } : Room).cells ({ frames := 0, cells := 0, slots := 0, locals := 0 } : Room).slots) := by
  refine MetFree.of_bodySF (Jvm.Free.JP.mathPlain rfl (by decide +kernel)) hisR ?_
  intro p e s m args below meth c s₁ Bd hml0 hP hK
  obtain ⟨rfl, hZ, hh⟩ := hP
  have hx := Bd.exec
  have hby := Bd.bytes
  have hml : c.maxLocals = 4 := hml0
  have hown : s.vm.findClass "java/lang/Math" = some m.cls := findClass_of_methodNamed Bd.named
  have hnm := (name_of_methodNamed Bd.named Bd.method).1
  have X0 : Stand p l e ({ frames := 0, cells := 0, slots := 0, locals := 0 } : Room) s m #[(.long q1), (.long q2)] below meth c s₁ [] 0 0 := Stand.of_body Bd
  have e0 : s₁.heap = h0 := by rw [← hh, Bd.state]; rfl
  have N0 := Fr.nil n0
  have pre0 : ∀ t, Steps p.tables e below (s₁.setTop (mkF m 0 #[.val (.long q1), .second, .val (.long q2), .second] [])) t → Steps p.tables e below (s₁.setTop (entryFrame m #[(.long q1), (.long q2)] 4)) t := fun t k => castTop (efMX m q1 q2) k
  have pre1 : ∀ t_, Steps p.tables e below (s₁.setTop (mkF m 3 #[.val (.long q1), .second, .val (.long q2), .second] [(.int (lcmpW q1 q2))])) t_ → Steps p.tables e below (s₁.setTop (entryFrame m #[(.long q1), (.long q2)] 4)) t_ := fun t_ k_ => pre0 t_ (by
      refine XS.lloadN X0.here hx rfl (hb hby dMX_0) rfl ?_
      show Steps p.tables e below (s₁.setTop (mkF m 1 #[.val (.long q1), .second, .val (.long q2), .second] [(.long q1)])) _
      refine XS.lloadN X0.here hx rfl (hb hby dMX_1) rfl ?_
      show Steps p.tables e below (s₁.setTop (mkF m 2 #[.val (.long q1), .second, .val (.long q2), .second] [(.long q2), (.long q1)])) _
      refine XS.lcmp X0.here hx rfl (hb hby dMX_2) rfl ?_
      show Steps p.tables e below (s₁.setTop (mkF m 3 #[.val (.long q1), .second, .val (.long q2), .second] [(.int (lcmpW q1 q2))])) _
      exact k_)
  by_cases c3_2 : (lcmpW q1 q2) < (0 : Int32)
  · have pre3 : ∀ t_, Steps p.tables e below (s₁.setTop (mkF m 11 #[.val (.long q1), .second, .val (.long q2), .second] [(.long q2)])) t_ → Steps p.tables e below (s₁.setTop (entryFrame m #[(.long q1), (.long q2)] 4)) t_ := fun t_ k_ => pre1 t_ (by
        refine XS.ifYes X0.here hx rfl (pc0 := 3) (pc' := 10) rfl (hb hby dMX_3) rfl ((if0 _ _).trans (tlt c3_2).1) (by decide) (by decide) ?_
        show Steps p.tables e below (s₁.setTop (mkF m 10 #[.val (.long q1), .second, .val (.long q2), .second] [])) _
        refine XS.lloadN X0.here hx rfl (hb hby dMX_10) rfl ?_
        show Steps p.tables e below (s₁.setTop (mkF m 11 #[.val (.long q1), .second, .val (.long q2), .second] [(.long q2)])) _
        exact k_)
    obtain ⟨fs, hr, hrun, hended, hW, hsame⟩ := X0.leave (v := some (.long q2)) (fun h => by rw [Bd.returns] at h; cases h)
    refine ⟨_, _, pre3 _ ?_, hrun, hended, _, _, rfl, ?_, ⟨_, rfl⟩, hW, hsame.mono (by decide) (by decide)⟩
    · exact X0.lreturnOut hx Bd.returns (hb hby dMX_11) hr
    · show QMX Z q1 q2 h0 n0 _ s₁.heap _
      rw [e0]
      exact ⟨congrArg (fun z => some (Value.long z)) (if_pos c3_2).symm, N0, rfl⟩
  · have pre4 : ∀ t_, Steps p.tables e below (s₁.setTop (mkF m 11 #[.val (.long q1), .second, .val (.long q2), .second] [(.long q1)])) t_ → Steps p.tables e below (s₁.setTop (entryFrame m #[(.long q1), (.long q2)] 4)) t_ := fun t_ k_ => pre1 t_ (by
        refine XS.ifNo X0.here hx rfl (hb hby dMX_3) rfl ((if0 _ _).trans (flt c3_2).1) ?_
        show Steps p.tables e below (s₁.setTop (mkF m 6 #[.val (.long q1), .second, .val (.long q2), .second] [])) _
        refine XS.lloadN X0.here hx rfl (hb hby dMX_6) rfl ?_
        show Steps p.tables e below (s₁.setTop (mkF m 7 #[.val (.long q1), .second, .val (.long q2), .second] [(.long q1)])) _
        refine XS.goto X0.here hx rfl (pc0 := 7) (pc' := 11) rfl (hb hby dMX_7) (by decide) (by decide) ?_
        show Steps p.tables e below (s₁.setTop (mkF m 11 #[.val (.long q1), .second, .val (.long q2), .second] [(.long q1)])) _
        exact k_)
    obtain ⟨fs, hr, hrun, hended, hW, hsame⟩ := X0.leave (v := some (.long q1)) (fun h => by rw [Bd.returns] at h; cases h)
    refine ⟨_, _, pre4 _ ?_, hrun, hended, _, _, rfl, ?_, ⟨_, rfl⟩, hW, hsame.mono (by decide) (by decide)⟩
    · exact X0.lreturnOut hx Bd.returns (hb hby dMX_11) hr
    · show QMX Z q1 q2 h0 n0 _ s₁.heap _
      rw [e0]
      exact ⟨congrArg (fun z => some (Value.long z)) (if_neg c3_2).symm, N0, rfl⟩
theorem dIN_0 : decode prog_34_method_1_code 0 = .ok (.aload_n 0, 1) := by decide +kernel
theorem dIN_1 : decode prog_34_method_1_code 1 = .ok (.invokespecial 1, 3) := by decide +kernel
theorem dIN_4 : decode prog_34_method_1_code 4 = .ok (.aload_n 0, 1) := by decide +kernel
theorem dIN_5 : decode prog_34_method_1_code 5 = .ok (.new 7, 3) := by decide +kernel
theorem dIN_8 : decode prog_34_method_1_code 8 = .ok (.dup, 1) := by decide +kernel
theorem dIN_9 : decode prog_34_method_1_code 9 = .ok (.invokespecial 9, 3) := by decide +kernel
theorem dIN_12 : decode prog_34_method_1_code 12 = .ok (.putfield 10, 3) := by decide +kernel
theorem dIN_15 : decode prog_34_method_1_code 15 = .ok (.aload_n 0, 1) := by decide +kernel
theorem dIN_16 : decode prog_34_method_1_code 16 = .ok (.bipush 64, 2) := by decide +kernel
theorem dIN_18 : decode prog_34_method_1_code 18 = .ok (.newarray .long, 2) := by decide +kernel
theorem dIN_20 : decode prog_34_method_1_code 20 = .ok (.putfield 16, 3) := by decide +kernel
theorem dIN_23 : decode prog_34_method_1_code 23 = .ok (.aload_n 0, 1) := by decide +kernel
theorem dIN_24 : decode prog_34_method_1_code 24 = .ok (.new 7, 3) := by decide +kernel
theorem dIN_27 : decode prog_34_method_1_code 27 = .ok (.dup, 1) := by decide +kernel
theorem dIN_28 : decode prog_34_method_1_code 28 = .ok (.invokespecial 9, 3) := by decide +kernel
theorem dIN_31 : decode prog_34_method_1_code 31 = .ok (.putfield 20, 3) := by decide +kernel
theorem dIN_34 : decode prog_34_method_1_code 34 = .ok (.return_, 1) := by decide +kernel
theorem pdIN_0 : parseMethodDescriptor "()V" = some ⟨[], none⟩ := by decide +kernel
theorem pnIN : plainName "com/example/headwater/headwater/headdriven/EventCounts" = true := by first | (simp [plainName, overriddenIn]; done) | decide +kernel
theorem efIN (m : MethodId) (a1 : Addr) : entryFrame m #[(.ref a1)] 1 = mkF m 0 #[.val (.ref a1)] [] := by first | (simp [entryFrame, mkF, argsToLocals, Value.category]; done) | rfl
def QIN (Z : State) (a1 : Addr) (h0 : Heap) (n0 : Nat) (v : Option Value) (h : Heap) (L : List Loc) : Prop := v = none ∧ Fr n0 L ∧ Keep h0 h [a1] ∧ ∃ nm nsl nus nc pm psl pus : Addr, Fld Z h a1 "com/example/headwater/headwater/headdriven/EventCounts" "m_aNodes" "Lcom/example/headwater/headwater/headdriven/LongMap;" (.ref nm) ∧ Fld Z h a1 "com/example/headwater/headwater/headdriven/EventCounts" "m_aNodeCounts" "[J" (.ref nc) ∧ Fld Z h a1 "com/example/headwater/headwater/headdriven/EventCounts" "m_aPairs" "Lcom/example/headwater/headwater/headdriven/LongMap;" (.ref pm) ∧ Fld Z h a1 "com/example/headwater/headwater/headdriven/EventCounts" "m_nRoots" "I" (.int (0 : Int32)) ∧ own_LM Z h nm nsl nus (fun _ => none) 0 ∧ own_LM Z h pm psl pus (fun _ => none) 0 ∧ OArr Z h nc .long 64 (fun _ => .long (0 : Int64)) ∧ n0 ≤ nm ∧ n0 ≤ nsl ∧ n0 ≤ nus ∧ n0 ≤ nc ∧ n0 ≤ pm ∧ n0 ≤ psl ∧ n0 ≤ pus ∧ a1 ≠ nm ∧ a1 ≠ nsl ∧ a1 ≠ nus ∧ a1 ≠ nc ∧ a1 ≠ pm ∧ a1 ≠ psl ∧ a1 ≠ pus ∧ nm ≠ nsl ∧ nm ≠ nus ∧ nm ≠ nc ∧ nm ≠ pm ∧ nm ≠ psl ∧ nm ≠ pus ∧ nsl ≠ nus ∧ nsl ≠ nc ∧ nsl ≠ pm ∧ nsl ≠ psl ∧ nsl ≠ pus ∧ nus ≠ nc ∧ nus ≠ pm ∧ nus ≠ psl ∧ nus ≠ pus ∧ nc ≠ pm ∧ nc ≠ psl ∧ nc ≠ pus ∧ pm ≠ psl ∧ pm ≠ pus ∧ psl ≠ pus
set_option maxRecDepth 65536 in
set_option maxHeartbeats 40000000 in
theorem rmIN (l : Launch) (Z : State) (a0 : Array Value) (hw : ∀ d ∈ tables_1, d.before a0 Z = true) (ws : List Jvm.Cond) (a1 : Addr) (h0 : Heap) (n0 : Nat) (Z0 : n0 ≤ h0.size) (E1 : Exa Z h0 a1 "com/example/headwater/headwater/headdriven/EventCounts") (F1 : Fld Z h0 a1 "com/example/headwater/headwater/headdriven/EventCounts" "m_aNodes" "Lcom/example/headwater/headwater/headdriven/LongMap;" .null) (F2 : Fld Z h0 a1 "com/example/headwater/headwater/headdriven/EventCounts" "m_aNodeCounts" "[J" .null) (F3 : Fld Z h0 a1 "com/example/headwater/headwater/headdriven/EventCounts" "m_aPairs" "Lcom/example/headwater/headwater/headdriven/LongMap;" .null) (F4 : Fld Z h0 a1 "com/example/headwater/headwater/headdriven/EventCounts" "m_nRoots" "I" (.int (0 : Int32))) (g1 : n0 ≤ a1) :
    MetFree l (⟨"com/example/headwater/headwater/headdriven/EventCounts", "<init>", "()V"⟩ : MethodName) (head1 (Jvm.Cond.code (⟨"com/example/headwater/headwater/headdriven/EventCounts", "<init>", "()V"⟩ : MethodName) prog_34_method_1_code 1 none :: ws) ({ frames := 4, cells := 11, slots := 156, locals := 57 } : Room)) (fun a U => a = #[(.ref a1)] ∧ Z.Warmed39 U.vm ∧ U.heap = h0) (fun _ _ _ _ _ => True) (fun _ U o U' => ∃ v L, o = .returned v ∧ QIN Z a1 h0 n0 v U'.heap L ∧ FrameEnd U o U' L ({ frames := 4, cells := 11, slots := 156, locals := 57 } : Room).cells ({ frames := 4, cells := 11, slots := 156, locals := 57 } : Room).slots) := by
  refine MetFree.of_bodySF (plainFor_of_name pnIN) hisR ?_
  intro p e s m args below meth c s₁ Bd hml0 hP hK
  obtain ⟨rfl, hZ, hh⟩ := hP
  have hx := Bd.exec
  have hby := Bd.bytes
  have hml : c.maxLocals = 1 := hml0
  have hown : s.vm.findClass "com/example/headwater/headwater/headdriven/EventCounts" = some m.cls := findClass_of_methodNamed Bd.named
  have hnm := (name_of_methodNamed Bd.named Bd.method).1
  have X0 : Stand p l e ({ frames := 4, cells := 11, slots := 156, locals := 57 } : Room) s m #[(.ref a1)] below meth c s₁ [] 0 0 := Stand.of_body Bd
  have e0 : s₁.heap = h0 := by rw [← hh, Bd.state]; rfl
  have N0 := Fr.nil n0
  have pre0 : ∀ t, Steps p.tables e below (s₁.setTop (mkF m 0 #[.val (.ref a1)] [])) t → Steps p.tables e below (s₁.setTop (entryFrame m #[(.ref a1)] 1)) t := fun t k => castTop (efIN m a1) k
  obtain ⟨T1, X1, e1, st1⟩ := initO X0 hx hZ hown (hw _ (List.mem_of_getElem? (i := 8) rfl)) (hw _ (List.mem_of_getElem? (i := 9) rfl)) (hw _ (List.mem_of_getElem? (i := 10) rfl)) e0 (g := (mkF m 1 #[.val (.ref a1)] [(.ref a1)])) rfl (by rw [hml]; rfl) rfl (hb hby dIN_1) (by decide) (W := 0) (by show 2 * 0 + _ ≤ _; exact Nat.le_of_eq rfl) (by decide)
  obtain ⟨T2, h2, X2, e2, E2, A2, D2, -, st2⟩ := newO X1 hx hZ hown (hw _ (List.mem_of_getElem? (i := 11) rfl)) (hw _ (List.mem_of_getElem? (i := 12) rfl)) (hw _ (List.mem_of_getElem? (i := 13) rfl)) e1 (g := (mkF m 5 #[.val (.ref a1)] [(.ref a1)])) rfl (hb hby dIN_5) (by decide) (by decide)
  obtain ⟨nm, g2⟩ : ∃ z, z = h0.size := ⟨_, rfl⟩
  rw [← g2] at A2 D2 st2
  have ne3 : a1 ≠ nm := Nat.ne_of_lt (Nat.lt_of_lt_of_le E1.lt (Nat.le_of_eq g2.symm))
  have gg2 : n0 ≤ nm := Nat.le_trans Z0 (Nat.le_of_eq g2.symm)
  have sz2 : h0.size ≤ nm := Nat.le_trans (Keep.refl h0 [a1]).1 (Nat.le_of_eq g2.symm)
  have f4 := E1.ext E2
  have f5 := F1.ext E2
  have f6 := F2.ext E2
  have f7 := F3.ext E2
  have f8 := F4.ext E2
  have Z2 : n0 ≤ h2.size := Nat.le_trans Z0 E2.1
  have K2 := (Keep.refl h0 [a1]).ext E2
  have f9 : Fld Z h2 nm "com/example/headwater/headwater/headdriven/LongMap" "m_aSlots" "[J" .null := D2 (Or.inl (hw _ (List.mem_of_getElem? (i := 20) rfl))) (ty := (.array .long)) (by decide)
  have f10 : Fld Z h2 nm "com/example/headwater/headwater/headdriven/LongMap" "m_aMoving" "[J" .null := D2 (Or.inl (hw _ (List.mem_of_getElem? (i := 22) rfl))) (ty := (.array .long)) (by decide)
  have f11 : Fld Z h2 nm "com/example/headwater/headwater/headdriven/LongMap" "m_aUsed" "[I" .null := D2 (Or.inl (hw _ (List.mem_of_getElem? (i := 30) rfl))) (ty := (.array .int)) (by decide)
  have f12 : Fld Z h2 nm "com/example/headwater/headwater/headdriven/LongMap" "m_nSize" "I" (.int (0 : Int32)) := D2 (Or.inl (hw _ (List.mem_of_getElem? (i := 32) rfl))) (ty := .int) (by decide)
  have f13 : Fld Z h2 nm "com/example/headwater/headwater/headdriven/LongMap" "m_nSlots" "I" (.int (0 : Int32)) := D2 (Or.inl (hw _ (List.mem_of_getElem? (i := 34) rfl))) (ty := .int) (by decide)
  have f14 : Fld Z h2 nm "com/example/headwater/headwater/headdriven/LongMap" "m_nShift" "I" (.int (0 : Int32)) := D2 (Or.inl (hw _ (List.mem_of_getElem? (i := 45) rfl))) (ty := .int) (by decide)
  obtain ⟨_, _, ⟨T15, L15, k15, n15⟩, -, X15, ⟨Lc15, hQ15, l15, y15, z15⟩, st15⟩ := X2.specialBack hx (y := (⟨"com/example/headwater/headwater/headdriven/LongMap", "<init>", "()V"⟩ : MethodName)) rfl hown (mvT hZ (hw _ (List.mem_of_getElem? (i := 14) rfl))) (mvT hZ (hw _ (List.mem_of_getElem? (i := 15) rfl))) (mvT hZ (hw _ (List.mem_of_getElem? (i := 16) rfl))) (by decide) (backOf (W := 2) (rmG l Z a0 hw [] nm  h2 n0 Z2 A2 f9 f10 f11 f12 f13 f14 gg2) hZ (hw _ (List.mem_of_getElem? (i := 16) rfl)) (hw _ (List.mem_of_getElem? (i := 13) rfl)) (by decide) (by decide)) (g := (mkF m 9 #[.val (.ref a1)] [(.ref nm), (.ref nm), (.ref a1)])) rfl (by rw [hml]; rfl) (Steps.refl _) (a := nm) (argsL := []) (rest := [(.ref nm), (.ref a1)]) (lenOf pdIN_0 rfl) rfl (by show 2 * 0 + _ ≤ _; exact Nat.le_of_eq rfl) (hb hby dIN_9) (fun _ _ => ⟨rfl, e2, (by decide : 1 + 4 ≤ _), (by decide : 6 + 40 ≤ _)⟩)
  dsimp only [Pt.U, Pt.locs, Pt.cells, Pt.slots] at X15 l15 y15 z15 st15 hQ15
  subst l15 y15 z15
  obtain ⟨rfl, N15q, K15, nsl, nus, u1_15, u2_15, u3_15, u4_15, u5_15, LM15⟩ := hQ15
  have N15 := Fr.app N0 N15q
  have f16 := f4.keep K15
  have f17 := f5.keep K15 (ninS ne3 nin0)
  have f18 := f6.keep K15 (ninS ne3 nin0)
  have f19 := f7.keep K15 (ninS ne3 nin0)
  have f20 := f8.keep K15 (ninS ne3 nin0)
  have f21 := A2.keep K15
  have Z15 : n0 ≤ T15.heap.size := Nat.le_trans Z2 K15.1
  have KK15 := K2.trans K15 (allS (Or.inr sz2) all0)
  have ne22 : a1 ≠ nsl := Nat.ne_of_lt (Nat.lt_of_lt_of_le f8.lt u3_15)
  have ne23 : a1 ≠ nus := Nat.ne_of_lt (Nat.lt_of_lt_of_le f8.lt u4_15)
  have ne24 : nm ≠ nsl := Nat.ne_of_lt (Nat.lt_of_lt_of_le f14.lt u3_15)
  have ne25 : nm ≠ nus := Nat.ne_of_lt (Nat.lt_of_lt_of_le f14.lt u4_15)
  have sq26 : h0.size ≤ nsl := Nat.le_trans K2.1 u3_15
  have sq27 : h0.size ≤ nus := Nat.le_trans K2.1 u4_15
  obtain ⟨T28, h28, X28, e28, W28, st28⟩ := putF X15 hx hZ hown (host := "") (Or.inl (hw _ (List.mem_of_getElem? (i := 46) rfl))) Via.refl rfl f17 f16 (Or.inr ⟨(hw _ (List.mem_of_getElem? (i := 47) rfl)), rfl, hnm⟩) (hw _ (List.mem_of_getElem? (i := 3) rfl)) (ty := (.object "com/example/headwater/headwater/headdriven/LongMap")) (by decide) rfl rfl (g := (mkF m 12 #[.val (.ref a1)] [(.ref nm), (.ref a1)])) rfl rfl (hb hby dIN_12)
  have Fw28 := f17.same W28
  have f29 := f16.wr W28
  have f30 := f18.other W28 (Or.inr (slot_ne (Or.inl (hw _ (List.mem_of_getElem? (i := 49) rfl))) (Or.inr (hw _ (List.mem_of_getElem? (i := 47) rfl))) (by decide) (t := (.array .long)) (t' := (.object "com/example/headwater/headwater/headdriven/LongMap")) (by decide) (by decide)))
  have f31 := f19.other W28 (Or.inr (slot_ne (Or.inr (hw _ (List.mem_of_getElem? (i := 51) rfl))) (Or.inr (hw _ (List.mem_of_getElem? (i := 47) rfl))) (by decide) (t := (.object "com/example/headwater/headwater/headdriven/LongMap")) (t' := (.object "com/example/headwater/headwater/headdriven/LongMap")) (by decide) (by decide)))
  have f32 := f20.other W28 (Or.inr (slot_ne (Or.inl (hw _ (List.mem_of_getElem? (i := 58) rfl))) (Or.inr (hw _ (List.mem_of_getElem? (i := 47) rfl))) (by decide) (t := .int) (t' := (.object "com/example/headwater/headwater/headdriven/LongMap")) (by decide) (by decide)))
  have f33 := LM15.other W28 (Ne.symm ne3) (Ne.symm ne22) (Ne.symm ne23)
  have N28 := Fr.snoc X28 N15 g1
  have K28 := KK15.wr W28 (Or.inl (List.mem_of_getElem? (i := 0) rfl))
  have Z28 : n0 ≤ h28.size := Nat.le_trans Z15 (Keep.of_wr W28).1
  obtain ⟨T34, h34, X34, e34, E34, A34, st34⟩ := oNew X28 hx hZ (hw _ (List.mem_of_getElem? (i := 18) rfl)) e28 (g := (mkF m 18 #[.val (.ref a1)] [(.int (64 : Int32)), (.ref a1)])) rfl (hb hby dIN_18) rfl (k := 64) (cap := 64) rfl (by decide) (by decide) (by decide) (by decide)
  obtain ⟨nc, g34⟩ : ∃ z, z = h28.size := ⟨_, rfl⟩
  rw [← g34] at A34 st34
  have ne35 : a1 ≠ nc := Nat.ne_of_lt (Nat.lt_of_lt_of_le f29.lt (Nat.le_of_eq g34.symm))
  have ne36 : nm ≠ nc := Nat.ne_of_lt (Nat.lt_of_lt_of_le f33.lt (Nat.le_of_eq g34.symm))
  have ne37 : nsl ≠ nc := Nat.ne_of_lt (Nat.lt_of_lt_of_le f33.lt1 (Nat.le_of_eq g34.symm))
  have ne38 : nus ≠ nc := Nat.ne_of_lt (Nat.lt_of_lt_of_le f33.lt2 (Nat.le_of_eq g34.symm))
  have gg34 : n0 ≤ nc := Nat.le_trans Z28 (Nat.le_of_eq g34.symm)
  have sz34 : h0.size ≤ nc := Nat.le_trans K28.1 (Nat.le_of_eq g34.symm)
  have f39 := f29.ext E34
  have f40 := Fw28.ext E34
  have f41 := f30.ext E34
  have f42 := f31.ext E34
  have f43 := f32.ext E34
  have f44 := f33.ext E34
  have Z34 : n0 ≤ h34.size := Nat.le_trans Z28 E34.1
  have K34 := K28.ext E34
  have B34 : OArr Z h34 nc .long 64 (fun _ => .long (0 : Int64)) := A34
  obtain ⟨T45, h45, X45, e45, W45, st45⟩ := putF X34 hx hZ hown (host := "") (Or.inl (hw _ (List.mem_of_getElem? (i := 48) rfl))) Via.refl e34 f41 f39 (Or.inl (hw _ (List.mem_of_getElem? (i := 49) rfl))) (hw _ (List.mem_of_getElem? (i := 3) rfl)) (ty := (.array .long)) (by decide) rfl rfl (g := (mkF m 20 #[.val (.ref a1)] [(.ref nc), (.ref a1)])) rfl rfl (hb hby dIN_20)
  have Fw45 := f41.same W45
  have f46 := f39.wr W45
  have f47 := f40.other W45 (Or.inr (slot_ne (Or.inr (hw _ (List.mem_of_getElem? (i := 47) rfl))) (Or.inl (hw _ (List.mem_of_getElem? (i := 49) rfl))) (by decide) (t := (.object "com/example/headwater/headwater/headdriven/LongMap")) (t' := (.array .long)) (by decide) (by decide)))
  have f48 := f42.other W45 (Or.inr (slot_ne (Or.inr (hw _ (List.mem_of_getElem? (i := 51) rfl))) (Or.inl (hw _ (List.mem_of_getElem? (i := 49) rfl))) (by decide) (t := (.object "com/example/headwater/headwater/headdriven/LongMap")) (t' := (.array .long)) (by decide) (by decide)))
  have f49 := f43.other W45 (Or.inr (slot_ne (Or.inl (hw _ (List.mem_of_getElem? (i := 58) rfl))) (Or.inl (hw _ (List.mem_of_getElem? (i := 49) rfl))) (by decide) (t := .int) (t' := (.array .long)) (by decide) (by decide)))
  have f50 := f44.other W45 (Ne.symm ne3) (Ne.symm ne22) (Ne.symm ne23)
  have f51 := B34.other W45 (Ne.symm ne35)
  have N45 := Fr.snoc X45 N28 g1
  have K45 := K34.wr W45 (Or.inl (List.mem_of_getElem? (i := 0) rfl))
  have Z45 : n0 ≤ h45.size := Nat.le_trans Z34 (Keep.of_wr W45).1
  obtain ⟨T52, h52, X52, e52, E52, A52, D52, -, st52⟩ := newO X45 hx hZ hown (hw _ (List.mem_of_getElem? (i := 11) rfl)) (hw _ (List.mem_of_getElem? (i := 12) rfl)) (hw _ (List.mem_of_getElem? (i := 13) rfl)) e45 (g := (mkF m 24 #[.val (.ref a1)] [(.ref a1)])) rfl (hb hby dIN_24) (by decide) (by decide)
  obtain ⟨pm, g52⟩ : ∃ z, z = h45.size := ⟨_, rfl⟩
  rw [← g52] at A52 D52 st52
  have ne53 : a1 ≠ pm := Nat.ne_of_lt (Nat.lt_of_lt_of_le f46.lt (Nat.le_of_eq g52.symm))
  have ne54 : nm ≠ pm := Nat.ne_of_lt (Nat.lt_of_lt_of_le f50.lt (Nat.le_of_eq g52.symm))
  have ne55 : nsl ≠ pm := Nat.ne_of_lt (Nat.lt_of_lt_of_le f50.lt1 (Nat.le_of_eq g52.symm))
  have ne56 : nus ≠ pm := Nat.ne_of_lt (Nat.lt_of_lt_of_le f50.lt2 (Nat.le_of_eq g52.symm))
  have ne57 : nc ≠ pm := Nat.ne_of_lt (Nat.lt_of_lt_of_le f51.lt (Nat.le_of_eq g52.symm))
  have gg52 : n0 ≤ pm := Nat.le_trans Z45 (Nat.le_of_eq g52.symm)
  have sz52 : h0.size ≤ pm := Nat.le_trans K45.1 (Nat.le_of_eq g52.symm)
  have f58 := f46.ext E52
  have f59 := f47.ext E52
  have f60 := Fw45.ext E52
  have f61 := f48.ext E52
  have f62 := f49.ext E52
  have f63 := f50.ext E52
  have f64 := f51.ext E52
  have Z52 : n0 ≤ h52.size := Nat.le_trans Z45 E52.1
  have K52 := K45.ext E52
  have f65 : Fld Z h52 pm "com/example/headwater/headwater/headdriven/LongMap" "m_aSlots" "[J" .null := D52 (Or.inl (hw _ (List.mem_of_getElem? (i := 20) rfl))) (ty := (.array .long)) (by decide)
  have f66 : Fld Z h52 pm "com/example/headwater/headwater/headdriven/LongMap" "m_aMoving" "[J" .null := D52 (Or.inl (hw _ (List.mem_of_getElem? (i := 22) rfl))) (ty := (.array .long)) (by decide)
  have f67 : Fld Z h52 pm "com/example/headwater/headwater/headdriven/LongMap" "m_aUsed" "[I" .null := D52 (Or.inl (hw _ (List.mem_of_getElem? (i := 30) rfl))) (ty := (.array .int)) (by decide)
  have f68 : Fld Z h52 pm "com/example/headwater/headwater/headdriven/LongMap" "m_nSize" "I" (.int (0 : Int32)) := D52 (Or.inl (hw _ (List.mem_of_getElem? (i := 32) rfl))) (ty := .int) (by decide)
  have f69 : Fld Z h52 pm "com/example/headwater/headwater/headdriven/LongMap" "m_nSlots" "I" (.int (0 : Int32)) := D52 (Or.inl (hw _ (List.mem_of_getElem? (i := 34) rfl))) (ty := .int) (by decide)
  have f70 : Fld Z h52 pm "com/example/headwater/headwater/headdriven/LongMap" "m_nShift" "I" (.int (0 : Int32)) := D52 (Or.inl (hw _ (List.mem_of_getElem? (i := 45) rfl))) (ty := .int) (by decide)
  obtain ⟨_, _, ⟨T71, L71, k71, n71⟩, -, X71, ⟨Lc71, hQ71, l71, y71, z71⟩, st71⟩ := X52.specialBack hx (y := (⟨"com/example/headwater/headwater/headdriven/LongMap", "<init>", "()V"⟩ : MethodName)) rfl hown (mvT hZ (hw _ (List.mem_of_getElem? (i := 14) rfl))) (mvT hZ (hw _ (List.mem_of_getElem? (i := 15) rfl))) (mvT hZ (hw _ (List.mem_of_getElem? (i := 16) rfl))) (by decide) (backOf (W := 2) (rmG l Z a0 hw [] pm  h52 n0 Z52 A52 f65 f66 f67 f68 f69 f70 gg52) hZ (hw _ (List.mem_of_getElem? (i := 16) rfl)) (hw _ (List.mem_of_getElem? (i := 13) rfl)) (by decide) (by decide)) (g := (mkF m 28 #[.val (.ref a1)] [(.ref pm), (.ref pm), (.ref a1)])) rfl (by rw [hml]; rfl) (Steps.refl _) (a := pm) (argsL := []) (rest := [(.ref pm), (.ref a1)]) (lenOf pdIN_0 rfl) rfl (by show 2 * 0 + _ ≤ _; exact Nat.le_of_eq rfl) (hb hby dIN_28) (fun _ _ => ⟨rfl, e52, (by decide : 7 + 4 ≤ _), (by decide : 116 + 40 ≤ _)⟩)
  dsimp only [Pt.U, Pt.locs, Pt.cells, Pt.slots] at X71 l71 y71 z71 st71 hQ71
  subst l71 y71 z71
  obtain ⟨rfl, N71q, K71, psl, pus, u1_71, u2_71, u3_71, u4_71, u5_71, LM71⟩ := hQ71
  have N71 := Fr.app N45 N71q
  have f72 := f58.keep K71
  have f73 := f59.keep K71 (ninS ne53 nin0)
  have f74 := f60.keep K71 (ninS ne53 nin0)
  have f75 := f61.keep K71 (ninS ne53 nin0)
  have f76 := f62.keep K71 (ninS ne53 nin0)
  have f77 := f63.keep K71 (ninS ne54 nin0) (ninS ne55 nin0) (ninS ne56 nin0)
  have f78 := f64.keep K71 (ninS ne57 nin0)
  have f79 := A52.keep K71
  have Z71 : n0 ≤ T71.heap.size := Nat.le_trans Z52 K71.1
  have KK71 := K52.trans K71 (allS (Or.inr sz52) all0)
  have ne80 : a1 ≠ psl := Nat.ne_of_lt (Nat.lt_of_lt_of_le f62.lt u3_71)
  have ne81 : a1 ≠ pus := Nat.ne_of_lt (Nat.lt_of_lt_of_le f62.lt u4_71)
  have ne82 : nm ≠ psl := Nat.ne_of_lt (Nat.lt_of_lt_of_le f63.lt u3_71)
  have ne83 : nm ≠ pus := Nat.ne_of_lt (Nat.lt_of_lt_of_le f63.lt u4_71)
  have ne84 : nsl ≠ psl := Nat.ne_of_lt (Nat.lt_of_lt_of_le f63.lt1 u3_71)
  have ne85 : nsl ≠ pus := Nat.ne_of_lt (Nat.lt_of_lt_of_le f63.lt1 u4_71)
  have ne86 : nus ≠ psl := Nat.ne_of_lt (Nat.lt_of_lt_of_le f63.lt2 u3_71)
  have ne87 : nus ≠ pus := Nat.ne_of_lt (Nat.lt_of_lt_of_le f63.lt2 u4_71)
  have ne88 : nc ≠ psl := Nat.ne_of_lt (Nat.lt_of_lt_of_le f64.lt u3_71)
  have ne89 : nc ≠ pus := Nat.ne_of_lt (Nat.lt_of_lt_of_le f64.lt u4_71)
  have ne90 : pm ≠ psl := Nat.ne_of_lt (Nat.lt_of_lt_of_le f70.lt u3_71)
  have ne91 : pm ≠ pus := Nat.ne_of_lt (Nat.lt_of_lt_of_le f70.lt u4_71)
  have sq92 : h0.size ≤ psl := Nat.le_trans K52.1 u3_71
  have sq93 : h0.size ≤ pus := Nat.le_trans K52.1 u4_71
  obtain ⟨T94, h94, X94, e94, W94, st94⟩ := putF X71 hx hZ hown (host := "") (Or.inl (hw _ (List.mem_of_getElem? (i := 50) rfl))) Via.refl rfl f75 f72 (Or.inr ⟨(hw _ (List.mem_of_getElem? (i := 51) rfl)), rfl, hnm⟩) (hw _ (List.mem_of_getElem? (i := 3) rfl)) (ty := (.object "com/example/headwater/headwater/headdriven/LongMap")) (by decide) rfl rfl (g := (mkF m 31 #[.val (.ref a1)] [(.ref pm), (.ref a1)])) rfl rfl (hb hby dIN_31)
  have Fw94 := f75.same W94
  have f95 := f72.wr W94
  have f96 := f73.other W94 (Or.inr (slot_ne (Or.inr (hw _ (List.mem_of_getElem? (i := 47) rfl))) (Or.inr (hw _ (List.mem_of_getElem? (i := 51) rfl))) (by decide) (t := (.object "com/example/headwater/headwater/headdriven/LongMap")) (t' := (.object "com/example/headwater/headwater/headdriven/LongMap")) (by decide) (by decide)))
  have f97 := f74.other W94 (Or.inr (slot_ne (Or.inl (hw _ (List.mem_of_getElem? (i := 49) rfl))) (Or.inr (hw _ (List.mem_of_getElem? (i := 51) rfl))) (by decide) (t := (.array .long)) (t' := (.object "com/example/headwater/headwater/headdriven/LongMap")) (by decide) (by decide)))
  have f98 := f76.other W94 (Or.inr (slot_ne (Or.inl (hw _ (List.mem_of_getElem? (i := 58) rfl))) (Or.inr (hw _ (List.mem_of_getElem? (i := 51) rfl))) (by decide) (t := .int) (t' := (.object "com/example/headwater/headwater/headdriven/LongMap")) (by decide) (by decide)))
  have f99 := f77.other W94 (Ne.symm ne3) (Ne.symm ne22) (Ne.symm ne23)
  have f100 := f78.other W94 (Ne.symm ne35)
  have f101 := LM71.other W94 (Ne.symm ne53) (Ne.symm ne80) (Ne.symm ne81)
  have N94 := Fr.snoc X94 N71 g1
  have K94 := KK71.wr W94 (Or.inl (List.mem_of_getElem? (i := 0) rfl))
  have Z94 : n0 ≤ h94.size := Nat.le_trans Z71 (Keep.of_wr W94).1
  have pre102 : ∀ t_, Steps p.tables e below (T94.setTop (mkF m 34 #[.val (.ref a1)] [])) t_ → Steps p.tables e below (s₁.setTop (entryFrame m #[(.ref a1)] 1)) t_ := fun t_ k_ => pre0 t_ (by
      refine XS.aloadN X0.here hx rfl (hb hby dIN_0) rfl rfl ?_
      show Steps p.tables e below (s₁.setTop (mkF m 1 #[.val (.ref a1)] [(.ref a1)])) _
      refine st1 _ ?_
      show Steps p.tables e below (T1.setTop (mkF m 4 #[.val (.ref a1)] [])) _
      refine XS.aloadN X1.here hx rfl (hb hby dIN_4) rfl rfl ?_
      show Steps p.tables e below (T1.setTop (mkF m 5 #[.val (.ref a1)] [(.ref a1)])) _
      refine st2 _ ?_
      show Steps p.tables e below (T2.setTop (mkF m 8 #[.val (.ref a1)] [(.ref nm), (.ref a1)])) _
      refine XS.dup X2.here hx rfl (hb hby dIN_8) rfl rfl ?_
      show Steps p.tables e below (T2.setTop (mkF m 9 #[.val (.ref a1)] [(.ref nm), (.ref nm), (.ref a1)])) _
      refine st15.trans ?_
      show Steps p.tables e below (T15.setTop (mkF m 12 #[.val (.ref a1)] [(.ref nm), (.ref a1)])) _
      refine st28 _ ?_
      show Steps p.tables e below (T28.setTop (mkF m 15 #[.val (.ref a1)] [])) _
      refine XS.aloadN X28.here hx rfl (hb hby dIN_15) rfl rfl ?_
      show Steps p.tables e below (T28.setTop (mkF m 16 #[.val (.ref a1)] [(.ref a1)])) _
      refine XS.bipush X28.here hx rfl (hb hby dIN_16) ?_
      show Steps p.tables e below (T28.setTop (mkF m 18 #[.val (.ref a1)] [(.int (64 : Int32)), (.ref a1)])) _
      refine st34 _ ?_
      show Steps p.tables e below (T34.setTop (mkF m 20 #[.val (.ref a1)] [(.ref nc), (.ref a1)])) _
      refine st45 _ ?_
      show Steps p.tables e below (T45.setTop (mkF m 23 #[.val (.ref a1)] [])) _
      refine XS.aloadN X45.here hx rfl (hb hby dIN_23) rfl rfl ?_
      show Steps p.tables e below (T45.setTop (mkF m 24 #[.val (.ref a1)] [(.ref a1)])) _
      refine st52 _ ?_
      show Steps p.tables e below (T52.setTop (mkF m 27 #[.val (.ref a1)] [(.ref pm), (.ref a1)])) _
      refine XS.dup X52.here hx rfl (hb hby dIN_27) rfl rfl ?_
      show Steps p.tables e below (T52.setTop (mkF m 28 #[.val (.ref a1)] [(.ref pm), (.ref pm), (.ref a1)])) _
      refine st71.trans ?_
      show Steps p.tables e below (T71.setTop (mkF m 31 #[.val (.ref a1)] [(.ref pm), (.ref a1)])) _
      refine st94 _ ?_
      show Steps p.tables e below (T94.setTop (mkF m 34 #[.val (.ref a1)] [])) _
      exact k_)
  obtain ⟨fs, hr, hrun, hended, hW, hsame⟩ := X94.leave (v := none) (fun _ => rfl)
  refine ⟨_, _, pre102 _ ?_, hrun, hended, _, _, rfl, ?_, ⟨_, rfl⟩, hW, hsame.mono (by decide) (by decide)⟩
  · exact X94.returnOut hx Bd.returns (hb hby dIN_34) hr
  · show QIN Z a1 h0 n0 _ T94.heap _
    rw [e94]
    exact ⟨rfl, N94, K94, nm, nsl, nus, nc, pm, psl, pus, f96, f97, Fw94, f98, f99, f101, f100, gg2, u1_15, u2_15, gg34, gg52, u1_71, u2_71, ne3, ne22, ne23, ne35, ne53, ne80, ne81, ne24, ne25, ne36, ne54, ne82, ne83, u5_15, ne37, ne55, ne84, ne85, ne38, ne56, ne86, ne87, ne57, ne88, ne89, ne90, ne91, u5_71⟩
theorem own_keyB (a b : Int32) : (own_key a b).toBitVec = (a.toBitVec ++ b.toBitVec : BitVec 64) := by
  have e : (own_key a b).toBitVec = (a.toBitVec.signExtend 64 <<< 32) ||| (b.toBitVec.signExtend 64 &&& 4294967295#64) := rfl
  rw [e]
  apply BitVec.eq_of_getLsbD_eq
  intro i hi
  have hm : (4294967295#64).getLsbD i = decide (i < 32) := by
    rw [show (4294967295#64) = BitVec.ofNat 64 (2 ^ 32 - 1) from rfl, BitVec.getLsbD_ofNat, Nat.testBit_two_pow_sub_one]
    simp [hi]
  rw [BitVec.getLsbD_or, BitVec.getLsbD_and, BitVec.getLsbD_shiftLeft, hm, BitVec.getLsbD_append]
  by_cases q : i < 32
  · have h1 : (b.toBitVec.signExtend 64).getLsbD i = b.toBitVec.getLsbD i := by rw [BitVec.getLsbD_signExtend, if_pos q, decide_eq_true hi, Bool.true_and]
    rw [h1, if_pos q, decide_eq_true q]
    simp
  · have h2 : (a.toBitVec.signExtend 64).getLsbD (i - 32) = a.toBitVec.getLsbD (i - 32) := by rw [BitVec.getLsbD_signExtend, if_pos (by omega), decide_eq_true (by omega), Bool.true_and]
    rw [h2, if_neg q, decide_eq_false q, decide_eq_true hi]
    simp
theorem own_keyLo (a b : Int32) : (own_key a b).toInt32 = b := by
  apply Int32.toBitVec_inj.mp
  show (own_key a b).toBitVec.signExtend 32 = _
  rw [own_keyB]
  apply BitVec.eq_of_getLsbD_eq
  intro i hi
  rw [BitVec.getLsbD_signExtend, BitVec.getLsbD_append]
  simp [hi]
  omega
def own_hi (x : Int64) : BitVec 32 := (x.toBitVec >>> 32).setWidth 32
theorem own_keyHi (a b : Int32) : own_hi (own_key a b) = a.toBitVec := by
  unfold own_hi
  rw [own_keyB]
  apply BitVec.eq_of_getLsbD_eq
  intro i hi
  rw [BitVec.getLsbD_setWidth, BitVec.getLsbD_ushiftRight, BitVec.getLsbD_append]
  simp [hi]
theorem own_keyF {a : Int32} (b : Int32) (h : a.toBitVec ≠ 2147483648#32) : own_key a b ≠ own_FREE := fun e => by
  have q := own_keyHi a b
  rw [e] at q
  exact h (q.symm.trans (by decide))
theorem own_keyNe {a a' : Int32} (b b' : Int32) (h : a.toBitVec ≠ a'.toBitVec) : own_key a b ≠ own_key a' b' := fun e => by
  have q := own_keyHi a b
  rw [e, own_keyHi] at q
  exact h q.symm
theorem own_lo (x : Int64) : (x + (4294967296 : Int64)).toInt32 = x.toInt32 := by
  apply Int32.toBitVec_inj.mp
  show (x.toBitVec + 4294967296#64).signExtend 32 = x.toBitVec.signExtend 32
  rw [BitVec.signExtend_eq_setWidth_of_le _ (by decide), BitVec.signExtend_eq_setWidth_of_le _ (by decide)]
  apply BitVec.eq_of_toNat_eq
  rw [BitVec.toNat_setWidth, BitVec.toNat_setWidth, BitVec.toNat_add]
  have : (4294967296#64).toNat = 4294967296 := rfl
  omega
theorem own_ul (c : Nat → Int64) (k : Nat) (v : Int64) : ∀ i, i < 64 → oUpd (fun i => .long (c i)) k (.long v) i = (fun i => Value.long (own_u c k v i)) i := fun i _ => by
  by_cases q : i = k
  · subst q; rw [oUpd_same]; show _ = Value.long (own_u c i v i); rw [own_u_same]
  · rw [oUpd_ne q]; show _ = Value.long (own_u c k v i); rw [own_u_ne q]
def own_dd (c : Nat → Int64) (nd : Nat) (bf : Int64) : Int64 := c (4 * nd + 3) + (if bf = 0 then (4294967296 : Int64) else 0)
theorem own_dd_lo (c : Nat → Int64) (nd : Nat) (bf : Int64) : (own_dd c nd bf).toInt32 = (c (4 * nd + 3)).toInt32 := by
  unfold own_dd; split
  · exact own_lo _
  · rw [Int64.add_zero]
def own_AD (nd : Nat) (c : Nat → Int64) (bf k : Int64) (o : Int32) (c' : Nat → Int64) : Prop :=
  (∀ i, (i < 4 * nd ∨ 4 * nd + 4 ≤ i) → c' i = c i) ∧ c' (4 * nd + 0) = c (4 * nd + 0) + k ∧
  (((own_dd c nd bf).toInt32 = o ∧ c' (4 * nd + 1) = bf + k ∧ c' (4 * nd + 2) = c (4 * nd + 2) ∧ c' (4 * nd + 3) = own_dd c nd bf) ∨
   (¬ (own_dd c nd bf).toInt32 = o ∧ (c (4 * nd + 1)).toInt < (bf + k).toInt ∧ c' (4 * nd + 1) = bf + k ∧ c' (4 * nd + 2) = c (4 * nd + 1) ∧ (c' (4 * nd + 3)).toInt32 = o) ∨
   (¬ (own_dd c nd bf).toInt32 = o ∧ ¬ (c (4 * nd + 1)).toInt < (bf + k).toInt ∧ c' (4 * nd + 1) = c (4 * nd + 1) ∧ c' (4 * nd + 2) = own_max (c (4 * nd + 2)) (bf + k) ∧ c' (4 * nd + 3) = own_dd c nd bf))
def own_ST (c : Nat → Int64) (M : Int64 → Option Int64) (T : Int32 → Int) (b : Int) : Prop := own_J T (c 5).toInt (c 6).toInt (c 7).toInt32 ∧ (∀ x, ((M (own_key (Int32.ofNat 1) x)).getD 0).toInt = T x) ∧ 0 ≤ (c 4).toInt ∧ (c 4).toInt ≤ b ∧ ∀ x, T x ≤ b
theorem own_ST.zero {c : Nat → Int64} {M : Int64 → Option Int64} {T : Int32 → Int} {b : Int} (H : own_ST c M T b) (o : Int32) {k : Int64} (hk : k = 0) : own_ST c M (own_T1 T o k.toInt) (b + k.toInt) := by
  subst hk
  have e : own_T1 T o (0 : Int64).toInt = T := by funext x; unfold own_T1; split; exact Int.add_zero _; rfl
  rw [e]
  show own_ST c M T (b + 0)
  rw [Int.add_zero]; exact H
theorem own_ST.add {c c' : Nat → Int64} {M : Int64 → Option Int64} {T : Int32 → Int} {b : Int} (H : own_ST c M T b) {o : Int32} {k : Int64} (hk : 0 < k.toInt) (hb : b + k.toInt < 9223372036854775808) (HA : own_AD 1 c ((M (own_key (Int32.ofNat 1) o)).getD 0) k o c') :
    own_ST c' (own_mput M (own_key (Int32.ofNat 1) o) ((M (own_key (Int32.ofNat 1) o)).getD 0 + k)) (own_T1 T o k.toInt) (b + k.toInt) := by
  obtain ⟨hJ, hM, h4, h4b, hT⟩ := H
  have hT0 := hJ.1
  generalize hbf : (M (own_key (Int32.ofNat 1) o)).getD 0 = bf at HA
  have hbi : bf.toInt = T o := by rw [← hbf]; exact hM o
  have haf : (bf + k).toInt = T o + k.toInt := by
    rw [own_ladd (by rw [hbi]; exact hT0 o) (by omega) (by have := hT o; omega), hbi]
  obtain ⟨-, g0, gc⟩ := HA
  have g0' : c' 4 = c 4 + k := g0
  have hc4 : (c' 4).toInt = (c 4).toInt + k.toInt := by rw [g0', own_ladd h4 (by omega) (by omega)]
  have hd := own_dd_lo c 1 bf
  have hd' : (own_dd c 1 bf).toInt32 = (c 7).toInt32 := hd
  refine ⟨?_, fun x => ?_, by omega, by omega, fun x => ?_⟩
  · rcases gc with ⟨e, g1, g2, g3⟩ | ⟨e, hg, g1, g2, g3⟩ | ⟨e, hg, g1, g2, g3⟩
    · have q1 : c' 5 = bf + k := g1
      have q2 : c' 6 = c 6 := g2
      have q3 : c' 7 = own_dd c 1 bf := g3
      rw [q1, q2, q3, haf, hd']
      exact hJ.first hk (by rw [← hd']; exact e)
    · have q1 : c' 5 = bf + k := g1
      have q2 : c' 6 = c 5 := g2
      have q3 : (c' 7).toInt32 = o := g3
      rw [q1, q2, q3, haf]
      refine hJ.over hk (by rw [← hd']; exact e) ?_
      have hg' : (c 5).toInt < (bf + k).toInt := hg
      rw [haf] at hg'; exact hg'
    · have q1 : c' 5 = c 5 := g1
      have q2 : c' 6 = own_max (c 6) (bf + k) := g2
      have q3 : c' 7 = own_dd c 1 bf := g3
      rw [q1, q2, q3, hd', own_max_int, haf]
      refine hJ.below hk (by rw [← hd']; exact e) ?_ ?_ ?_ ?_
      · have hg' : ¬ (c 5).toInt < (bf + k).toInt := hg
        rw [haf] at hg'; exact hg'
      · split <;> omega
      · split <;> omega
      · split
        · exact Or.inr rfl
        · exact Or.inl rfl
  · by_cases e : x = o
    · subst e
      rw [own_mput, if_pos rfl]
      show (bf + k).toInt = _
      rw [haf, own_T1, if_pos rfl]
    · have hne : own_key (Int32.ofNat 1) x ≠ own_key (Int32.ofNat 1) o := fun z => e (by rw [← own_keyLo (Int32.ofNat 1) x, z, own_keyLo])
      rw [own_mput, if_neg hne, hM x, own_T1, if_neg e]
  · unfold own_T1; have := hT x; split <;> omega
theorem own_ST.start {c : Nat → Int64} {o : Int32} {v : Int64} (hc : ∀ i, 4 ≤ i → c i = 0) : own_ST c (own_mput (fun _ => none) (own_key (Int32.ofNat 0) o) v) (fun _ => 0) 0 := by
  have e4 : c 4 = 0 := hc 4 (by decide)
  have e5 : c 5 = 0 := hc 5 (by decide)
  have e6 : c 6 = 0 := hc 6 (by decide)
  have z : (0 : Int64).toInt = 0 := rfl
  refine ⟨⟨fun _ => Int.le_refl _, by rw [e5]; rfl, fun _ _ => by rw [e6]; exact Int.le_refl _, by rw [e5, e6]; exact Int.le_refl _, by rw [e6]; exact Int.le_refl _, Or.inl (by rw [e6]; rfl)⟩, fun x => ?_, by rw [e4]; exact Int.le_refl _, by rw [e4]; exact Int.le_refl _, fun _ => Int.le_refl _⟩
  rw [own_mput, if_neg (own_keyNe x o (by decide))]; rfl
def own_if (t : Int64) (a x : Int32) (k : Int64) : Int64 := if a = x then t + k else t
abbrev own_R (w : Int64) : Prop := 0 ≤ w.toInt ∧ w.toInt < 1152921504606846976
theorem own_if_int {t k : Int64} {T : Int32 → Int} {x : Int32} {b : Int} (a : Int32) (ht : t.toInt = T x) (h0 : 0 ≤ t.toInt) (hb : t.toInt ≤ b) (hk : own_R k) (hs : b < 4611686018427387904) : (own_if t a x k).toInt = own_T1 T a k.toInt x ∧ 0 ≤ (own_if t a x k).toInt ∧ (own_if t a x k).toInt ≤ b + k.toInt := by
  unfold own_if own_T1
  obtain ⟨k1, k2⟩ := hk
  by_cases e : a = x
  · rw [if_pos e, if_pos e.symm, own_ladd h0 k1 (by omega)]; omega
  · rw [if_neg e, if_neg (fun z => e z.symm)]; omega
theorem own_tot {k1 k2 k3 : Int64} (r1 : own_R k1) (r2 : own_R k2) (r3 : own_R k3) (a b c x : Int32) : (own_if (own_if (own_if (0 : Int64) a x k1) b x k2) c x k3).toInt = own_T1 (own_T1 (own_T1 (fun _ => 0) a k1.toInt) b k2.toInt) c k3.toInt x := by
  have z : (0 : Int64).toInt = 0 := rfl
  obtain ⟨a1, a2, a3⟩ := own_if_int (T := fun _ => 0) (x := x) (b := 0) a (t := 0) rfl (Int.le_refl _) (Int.le_refl _) r1 (by decide)
  obtain ⟨b1, b2, b3⟩ := own_if_int (x := x) b a1 a2 a3 r2 (by have := r1.2; omega)
  obtain ⟨c1, -, -⟩ := own_if_int (x := x) c b1 b2 b3 r3 (by have := r1.2; have := r2.2; omega)
  exact c1
theorem own_m60 (x : Int64) : own_R (x &&& (1152921504606846975 : Int64)) := by
  have e : (x &&& (1152921504606846975 : Int64)).toBitVec.toNat = x.toBitVec.toNat % 2 ^ 60 := by
    rw [Int64.toBitVec_and, BitVec.toNat_and]; exact Nat.and_two_pow_sub_one_eq_mod x.toBitVec.toNat 60
  have hm : x.toBitVec.toNat % 2 ^ 60 < 2 ^ 60 := Nat.mod_lt _ (by decide)
  show 0 ≤ (x &&& (1152921504606846975 : Int64)).toBitVec.toInt ∧ (x &&& (1152921504606846975 : Int64)).toBitVec.toInt < 1152921504606846976
  rw [BitVec.toInt_eq_toNat_cond, e]
  split <;> omega
theorem own_pos {k : Int64} (h : own_R k) (hn : ¬ lcmpW k (0 : Int64) = (0 : Int32)) : 0 < k.toInt := by
  have : ¬ k = 0 := fun e => hn (own_lc e)
  have q : ¬ k.toInt = 0 := fun e => this (Int64.toInt_inj.mp e)
  have := h.1; omega
theorem own_lceq {x y : Int64} (h : lcmpW x y = 0) : x = y := (lc_eq x y).mp (by rw [← lcW]; exact h)
theorem dD_0 : decode prog_34_method_7_code 0 = .ok (.iload_n 1, 1) := by decide +kernel
theorem dD_1 : decode prog_34_method_7_code 1 = .ok (.iconst 4, 1) := by decide +kernel
theorem dD_2 : decode prog_34_method_7_code 2 = .ok (.imul, 1) := by decide +kernel
theorem dD_3 : decode prog_34_method_7_code 3 = .ok (.istore 5, 2) := by decide +kernel
theorem dD_5 : decode prog_34_method_7_code 5 = .ok (.aload_n 0, 1) := by decide +kernel
theorem dD_6 : decode prog_34_method_7_code 6 = .ok (.getfield 16, 3) := by decide +kernel
theorem dD_9 : decode prog_34_method_7_code 9 = .ok (.iload 5, 2) := by decide +kernel
theorem dD_11 : decode prog_34_method_7_code 11 = .ok (.iconst 0, 1) := by decide +kernel
theorem dD_12 : decode prog_34_method_7_code 12 = .ok (.iadd, 1) := by decide +kernel
theorem dD_13 : decode prog_34_method_7_code 13 = .ok (.aload_n 0, 1) := by decide +kernel
theorem dD_14 : decode prog_34_method_7_code 14 = .ok (.getfield 16, 3) := by decide +kernel
theorem dD_17 : decode prog_34_method_7_code 17 = .ok (.iload 5, 2) := by decide +kernel
theorem dD_19 : decode prog_34_method_7_code 19 = .ok (.iconst 0, 1) := by decide +kernel
theorem dD_20 : decode prog_34_method_7_code 20 = .ok (.iadd, 1) := by decide +kernel
theorem dD_21 : decode prog_34_method_7_code 21 = .ok (.laload, 1) := by decide +kernel
theorem dD_22 : decode prog_34_method_7_code 22 = .ok (.lload_n 3, 1) := by decide +kernel
theorem dD_23 : decode prog_34_method_7_code 23 = .ok (.invokestatic 49, 3) := by decide +kernel
theorem dD_26 : decode prog_34_method_7_code 26 = .ok (.lastore, 1) := by decide +kernel
theorem dD_27 : decode prog_34_method_7_code 27 = .ok (.iload_n 1, 1) := by decide +kernel
theorem dD_28 : decode prog_34_method_7_code 28 = .ok (.iload_n 2, 1) := by decide +kernel
theorem dD_29 : decode prog_34_method_7_code 29 = .ok (.invokestatic 29, 3) := by decide +kernel
theorem dD_32 : decode prog_34_method_7_code 32 = .ok (.lstore 6, 2) := by decide +kernel
theorem dD_34 : decode prog_34_method_7_code 34 = .ok (.aload_n 0, 1) := by decide +kernel
theorem dD_35 : decode prog_34_method_7_code 35 = .ok (.getfield 20, 3) := by decide +kernel
theorem dD_38 : decode prog_34_method_7_code 38 = .ok (.lload 6, 2) := by decide +kernel
theorem dD_40 : decode prog_34_method_7_code 40 = .ok (.lconst 0, 1) := by decide +kernel
theorem dD_41 : decode prog_34_method_7_code 41 = .ok (.invokevirtual 55, 3) := by decide +kernel
theorem dD_44 : decode prog_34_method_7_code 44 = .ok (.lstore 8, 2) := by decide +kernel
theorem dD_46 : decode prog_34_method_7_code 46 = .ok (.lload 8, 2) := by decide +kernel
theorem dD_48 : decode prog_34_method_7_code 48 = .ok (.lload_n 3, 1) := by decide +kernel
theorem dD_49 : decode prog_34_method_7_code 49 = .ok (.invokestatic 49, 3) := by decide +kernel
theorem dD_52 : decode prog_34_method_7_code 52 = .ok (.lstore 10, 2) := by decide +kernel
theorem dD_54 : decode prog_34_method_7_code 54 = .ok (.aload_n 0, 1) := by decide +kernel
theorem dD_55 : decode prog_34_method_7_code 55 = .ok (.getfield 20, 3) := by decide +kernel
theorem dD_58 : decode prog_34_method_7_code 58 = .ok (.lload 6, 2) := by decide +kernel
theorem dD_60 : decode prog_34_method_7_code 60 = .ok (.lload 10, 2) := by decide +kernel
theorem dD_62 : decode prog_34_method_7_code 62 = .ok (.invokevirtual 57, 3) := by decide +kernel
theorem dD_65 : decode prog_34_method_7_code 65 = .ok (.aload_n 0, 1) := by decide +kernel
theorem dD_66 : decode prog_34_method_7_code 66 = .ok (.getfield 16, 3) := by decide +kernel
theorem dD_69 : decode prog_34_method_7_code 69 = .ok (.iload 5, 2) := by decide +kernel
theorem dD_71 : decode prog_34_method_7_code 71 = .ok (.iconst 3, 1) := by decide +kernel
theorem dD_72 : decode prog_34_method_7_code 72 = .ok (.iadd, 1) := by decide +kernel
theorem dD_73 : decode prog_34_method_7_code 73 = .ok (.laload, 1) := by decide +kernel
theorem dD_74 : decode prog_34_method_7_code 74 = .ok (.lload 8, 2) := by decide +kernel
theorem dD_76 : decode prog_34_method_7_code 76 = .ok (.lconst 0, 1) := by decide +kernel
theorem dD_77 : decode prog_34_method_7_code 77 = .ok (.lcmp, 1) := by decide +kernel
theorem dD_78 : decode prog_34_method_7_code 78 = .ok (.ifCond .ne 9, 3) := by decide +kernel
theorem dD_81 : decode prog_34_method_7_code 81 = .ok (.ldc2_w 61, 3) := by decide +kernel
theorem dD_84 : decode prog_34_method_7_code 84 = .ok (.goto 4, 3) := by decide +kernel
theorem dD_87 : decode prog_34_method_7_code 87 = .ok (.lconst 0, 1) := by decide +kernel
theorem dD_88 : decode prog_34_method_7_code 88 = .ok (.ladd, 1) := by decide +kernel
theorem dD_89 : decode prog_34_method_7_code 89 = .ok (.lstore 12, 2) := by decide +kernel
theorem dD_91 : decode prog_34_method_7_code 91 = .ok (.lload 12, 2) := by decide +kernel
theorem dD_93 : decode prog_34_method_7_code 93 = .ok (.l2i, 1) := by decide +kernel
theorem dD_94 : decode prog_34_method_7_code 94 = .ok (.iload_n 2, 1) := by decide +kernel
theorem dD_95 : decode prog_34_method_7_code 95 = .ok (.if_icmp .ne 28, 3) := by decide +kernel
theorem dD_98 : decode prog_34_method_7_code 98 = .ok (.aload_n 0, 1) := by decide +kernel
theorem dD_99 : decode prog_34_method_7_code 99 = .ok (.getfield 16, 3) := by decide +kernel
theorem dD_102 : decode prog_34_method_7_code 102 = .ok (.iload 5, 2) := by decide +kernel
theorem dD_104 : decode prog_34_method_7_code 104 = .ok (.iconst 1, 1) := by decide +kernel
theorem dD_105 : decode prog_34_method_7_code 105 = .ok (.iadd, 1) := by decide +kernel
theorem dD_106 : decode prog_34_method_7_code 106 = .ok (.lload 10, 2) := by decide +kernel
theorem dD_108 : decode prog_34_method_7_code 108 = .ok (.lastore, 1) := by decide +kernel
theorem dD_109 : decode prog_34_method_7_code 109 = .ok (.aload_n 0, 1) := by decide +kernel
theorem dD_110 : decode prog_34_method_7_code 110 = .ok (.getfield 16, 3) := by decide +kernel
theorem dD_113 : decode prog_34_method_7_code 113 = .ok (.iload 5, 2) := by decide +kernel
theorem dD_115 : decode prog_34_method_7_code 115 = .ok (.iconst 3, 1) := by decide +kernel
theorem dD_116 : decode prog_34_method_7_code 116 = .ok (.iadd, 1) := by decide +kernel
theorem dD_117 : decode prog_34_method_7_code 117 = .ok (.lload 12, 2) := by decide +kernel
theorem dD_119 : decode prog_34_method_7_code 119 = .ok (.lastore, 1) := by decide +kernel
theorem dD_120 : decode prog_34_method_7_code 120 = .ok (.goto 103, 3) := by decide +kernel
theorem dD_123 : decode prog_34_method_7_code 123 = .ok (.lload 10, 2) := by decide +kernel
theorem dD_125 : decode prog_34_method_7_code 125 = .ok (.aload_n 0, 1) := by decide +kernel
theorem dD_126 : decode prog_34_method_7_code 126 = .ok (.getfield 16, 3) := by decide +kernel
theorem dD_129 : decode prog_34_method_7_code 129 = .ok (.iload 5, 2) := by decide +kernel
theorem dD_131 : decode prog_34_method_7_code 131 = .ok (.iconst 1, 1) := by decide +kernel
theorem dD_132 : decode prog_34_method_7_code 132 = .ok (.iadd, 1) := by decide +kernel
theorem dD_133 : decode prog_34_method_7_code 133 = .ok (.laload, 1) := by decide +kernel
theorem dD_134 : decode prog_34_method_7_code 134 = .ok (.lcmp, 1) := by decide +kernel
theorem dD_135 : decode prog_34_method_7_code 135 = .ok (.ifCond .le 54, 3) := by decide +kernel
theorem dD_138 : decode prog_34_method_7_code 138 = .ok (.aload_n 0, 1) := by decide +kernel
theorem dD_139 : decode prog_34_method_7_code 139 = .ok (.getfield 16, 3) := by decide +kernel
theorem dD_142 : decode prog_34_method_7_code 142 = .ok (.iload 5, 2) := by decide +kernel
theorem dD_144 : decode prog_34_method_7_code 144 = .ok (.iconst 2, 1) := by decide +kernel
theorem dD_145 : decode prog_34_method_7_code 145 = .ok (.iadd, 1) := by decide +kernel
theorem dD_146 : decode prog_34_method_7_code 146 = .ok (.aload_n 0, 1) := by decide +kernel
theorem dD_147 : decode prog_34_method_7_code 147 = .ok (.getfield 16, 3) := by decide +kernel
theorem dD_150 : decode prog_34_method_7_code 150 = .ok (.iload 5, 2) := by decide +kernel
theorem dD_152 : decode prog_34_method_7_code 152 = .ok (.iconst 1, 1) := by decide +kernel
theorem dD_153 : decode prog_34_method_7_code 153 = .ok (.iadd, 1) := by decide +kernel
theorem dD_154 : decode prog_34_method_7_code 154 = .ok (.laload, 1) := by decide +kernel
theorem dD_155 : decode prog_34_method_7_code 155 = .ok (.lastore, 1) := by decide +kernel
theorem dD_156 : decode prog_34_method_7_code 156 = .ok (.aload_n 0, 1) := by decide +kernel
theorem dD_157 : decode prog_34_method_7_code 157 = .ok (.getfield 16, 3) := by decide +kernel
theorem dD_160 : decode prog_34_method_7_code 160 = .ok (.iload 5, 2) := by decide +kernel
theorem dD_162 : decode prog_34_method_7_code 162 = .ok (.iconst 1, 1) := by decide +kernel
theorem dD_163 : decode prog_34_method_7_code 163 = .ok (.iadd, 1) := by decide +kernel
theorem dD_164 : decode prog_34_method_7_code 164 = .ok (.lload 10, 2) := by decide +kernel
theorem dD_166 : decode prog_34_method_7_code 166 = .ok (.lastore, 1) := by decide +kernel
theorem dD_167 : decode prog_34_method_7_code 167 = .ok (.aload_n 0, 1) := by decide +kernel
theorem dD_168 : decode prog_34_method_7_code 168 = .ok (.getfield 16, 3) := by decide +kernel
theorem dD_171 : decode prog_34_method_7_code 171 = .ok (.iload 5, 2) := by decide +kernel
theorem dD_173 : decode prog_34_method_7_code 173 = .ok (.iconst 3, 1) := by decide +kernel
theorem dD_174 : decode prog_34_method_7_code 174 = .ok (.iadd, 1) := by decide +kernel
theorem dD_175 : decode prog_34_method_7_code 175 = .ok (.lload 12, 2) := by decide +kernel
theorem dD_177 : decode prog_34_method_7_code 177 = .ok (.bipush 32, 2) := by decide +kernel
theorem dD_179 : decode prog_34_method_7_code 179 = .ok (.lushr, 1) := by decide +kernel
theorem dD_180 : decode prog_34_method_7_code 180 = .ok (.l2i, 1) := by decide +kernel
theorem dD_181 : decode prog_34_method_7_code 181 = .ok (.iload_n 2, 1) := by decide +kernel
theorem dD_182 : decode prog_34_method_7_code 182 = .ok (.invokestatic 29, 3) := by decide +kernel
theorem dD_185 : decode prog_34_method_7_code 185 = .ok (.lastore, 1) := by decide +kernel
theorem dD_186 : decode prog_34_method_7_code 186 = .ok (.goto 37, 3) := by decide +kernel
theorem dD_189 : decode prog_34_method_7_code 189 = .ok (.aload_n 0, 1) := by decide +kernel
theorem dD_190 : decode prog_34_method_7_code 190 = .ok (.getfield 16, 3) := by decide +kernel
theorem dD_193 : decode prog_34_method_7_code 193 = .ok (.iload 5, 2) := by decide +kernel
theorem dD_195 : decode prog_34_method_7_code 195 = .ok (.iconst 2, 1) := by decide +kernel
theorem dD_196 : decode prog_34_method_7_code 196 = .ok (.iadd, 1) := by decide +kernel
theorem dD_197 : decode prog_34_method_7_code 197 = .ok (.aload_n 0, 1) := by decide +kernel
theorem dD_198 : decode prog_34_method_7_code 198 = .ok (.getfield 16, 3) := by decide +kernel
theorem dD_201 : decode prog_34_method_7_code 201 = .ok (.iload 5, 2) := by decide +kernel
theorem dD_203 : decode prog_34_method_7_code 203 = .ok (.iconst 2, 1) := by decide +kernel
theorem dD_204 : decode prog_34_method_7_code 204 = .ok (.iadd, 1) := by decide +kernel
theorem dD_205 : decode prog_34_method_7_code 205 = .ok (.laload, 1) := by decide +kernel
theorem dD_206 : decode prog_34_method_7_code 206 = .ok (.lload 10, 2) := by decide +kernel
theorem dD_208 : decode prog_34_method_7_code 208 = .ok (.invokestatic 63, 3) := by decide +kernel
theorem dD_211 : decode prog_34_method_7_code 211 = .ok (.lastore, 1) := by decide +kernel
theorem dD_212 : decode prog_34_method_7_code 212 = .ok (.aload_n 0, 1) := by decide +kernel
theorem dD_213 : decode prog_34_method_7_code 213 = .ok (.getfield 16, 3) := by decide +kernel
theorem dD_216 : decode prog_34_method_7_code 216 = .ok (.iload 5, 2) := by decide +kernel
theorem dD_218 : decode prog_34_method_7_code 218 = .ok (.iconst 3, 1) := by decide +kernel
theorem dD_219 : decode prog_34_method_7_code 219 = .ok (.iadd, 1) := by decide +kernel
theorem dD_220 : decode prog_34_method_7_code 220 = .ok (.lload 12, 2) := by decide +kernel
theorem dD_222 : decode prog_34_method_7_code 222 = .ok (.lastore, 1) := by decide +kernel
theorem dD_223 : decode prog_34_method_7_code 223 = .ok (.return_, 1) := by decide +kernel
theorem pdD_0 : parseMethodDescriptor "(JJ)J" = some ⟨[.long, .long], some .long⟩ := by decide +kernel
theorem pdD_1 : parseMethodDescriptor "(II)J" = some ⟨[.int, .int], some .long⟩ := by decide +kernel
theorem pdD_2 : parseMethodDescriptor "(JJ)V" = some ⟨[.long, .long], none⟩ := by decide +kernel
theorem pnD : plainName "com/example/headwater/headwater/headdriven/EventCounts" = true := by first | (simp [plainName, overriddenIn]; done) | decide +kernel
theorem efD (m : MethodId) (a1 : Addr) (p2 : Int32) (p3 : Int32) (q4 : Int64) : entryFrame m #[(.ref a1), (.int p2), (.int p3), (.long q4)] 14 = mkF m 0 #[.val (.ref a1), .val (.int p2), .val (.int p3), .val (.long q4), .second, .unset, .unset, .unset, .unset, .unset, .unset, .unset, .unset, .unset] [] := by first | (simp [entryFrame, mkF, argsToLocals, Value.category]; done) | rfl
def QD (Z : State) (a1 : Addr) (p2 p3 : Int32) (q4 : Int64) (nd : Nat) (nc pm sl us : Addr) (ct : Nat → Int64) (M : Int64 → Option Int64) (n : Nat) (h0 : Heap) (n0 : Nat) (v : Option Value) (h : Heap) (L : List Loc) : Prop := v = none ∧ Fr n0 L ∧ Keep h0 h [nc, pm, sl, us] ∧ own_LM Z h pm sl us (own_mput M (own_key p2 p3) (((M (own_key p2 p3)).getD (0 : Int64)) + q4)) (own_nn M (own_key p2 p3) n) ∧ ∃ c' : Nat → Int64, OArr Z h nc .long 64 (fun i => .long (c' i)) ∧ own_AD nd ct ((M (own_key p2 p3)).getD (0 : Int64)) q4 p3 c'
set_option maxRecDepth 65536 in
set_option maxHeartbeats 40000000 in
theorem rmD (l : Launch) (Z : State) (a0 : Array Value) (hw : ∀ d ∈ tables_1, d.before a0 Z = true) (ws : List Jvm.Cond) (a1 : Addr) (p2 p3 : Int32) (q4 : Int64) (nd : Nat) (nc pm sl us : Addr) (ct : Nat → Int64) (M : Int64 → Option Int64) (n : Nat) (h0 : Heap) (n0 : Nat) (Z0 : n0 ≤ h0.size) (F2 : Fld Z h0 a1 "com/example/headwater/headwater/headdriven/EventCounts" "m_aNodeCounts" "[J" (.ref nc)) (F3 : Fld Z h0 a1 "com/example/headwater/headwater/headdriven/EventCounts" "m_aPairs" "Lcom/example/headwater/headwater/headdriven/LongMap;" (.ref pm)) (A1 : OArr Z h0 nc .long 64 (fun i => .long (ct i))) (LM0 : own_LM Z h0 pm sl us M n) (hn : n < 8) (hnd : p2.toInt = (nd : Int)) (hnd1 : nd ≤ 1) (hq : (own_key p2 p3) ≠ own_FREE) (hk : 0 < q4.toInt) (hb0 : 0 ≤ (ct (4 * nd + 0)).toInt) (hb1 : (ct (4 * nd + 0)).toInt + q4.toInt < 9223372036854775808) (hb2 : 0 ≤ ((M (own_key p2 p3)).getD (0 : Int64)).toInt) (hb3 : ((M (own_key p2 p3)).getD (0 : Int64)).toInt + q4.toInt < 9223372036854775808) (d_a1_nc : a1 ≠ nc) (d_a1_pm : a1 ≠ pm) (d_a1_sl : a1 ≠ sl) (d_a1_us : a1 ≠ us) (d_nc_pm : nc ≠ pm) (d_nc_sl : nc ≠ sl) (d_nc_us : nc ≠ us) (d_pm_sl : pm ≠ sl) (d_pm_us : pm ≠ us) (d_sl_us : sl ≠ us) (g_nc : n0 ≤ nc) (g_pm : n0 ≤ pm) (g_sl : n0 ≤ sl) (g_us : n0 ≤ us) :
    MetFree l (⟨"com/example/headwater/headwater/headdriven/EventCounts", "add", "(IIJ)V"⟩ : MethodName) (head1 (Jvm.Cond.code (⟨"com/example/headwater/headwater/headdriven/EventCounts", "add", "(IIJ)V"⟩ : MethodName) prog_34_method_7_code 14 none :: ws) ({ frames := 2, cells := 0, slots := 0, locals := 33 } : Room)) (fun a U => a = #[(.ref a1), (.int p2), (.int p3), (.long q4)] ∧ Z.Warmed39 U.vm ∧ U.heap = h0) (fun _ _ _ _ _ => True) (fun _ U o U' => ∃ v L, o = .returned v ∧ QD Z a1 p2 p3 q4 nd nc pm sl us ct M n h0 n0 v U'.heap L ∧ FrameEnd U o U' L ({ frames := 2, cells := 0, slots := 0, locals := 33 } : Room).cells ({ frames := 2, cells := 0, slots := 0, locals := 33 } : Room).slots) := by
  refine MetFree.of_bodySF (plainFor_of_name pnD) hisR ?_
  intro p e s m args below meth c s₁ Bd hml0 hP hK
  obtain ⟨rfl, hZ, hh⟩ := hP
  have hx := Bd.exec
  have hby := Bd.bytes
  have hml : c.maxLocals = 14 := hml0
  have hown : s.vm.findClass "com/example/headwater/headwater/headdriven/EventCounts" = some m.cls := findClass_of_methodNamed Bd.named
  have hnm := (name_of_methodNamed Bd.named Bd.method).1
  have X0 : Stand p l e ({ frames := 2, cells := 0, slots := 0, locals := 33 } : Room) s m #[(.ref a1), (.int p2), (.int p3), (.long q4)] below meth c s₁ [] 0 0 := Stand.of_body Bd
  have e0 : s₁.heap = h0 := by rw [← hh, Bd.state]; rfl
  have N0 := Fr.nil n0
  have pre0 : ∀ t, Steps p.tables e below (s₁.setTop (mkF m 0 #[.val (.ref a1), .val (.int p2), .val (.int p3), .val (.long q4), .second, .unset, .unset, .unset, .unset, .unset, .unset, .unset, .unset, .unset] [])) t → Steps p.tables e below (s₁.setTop (entryFrame m #[(.ref a1), (.int p2), (.int p3), (.long q4)] 14)) t := fun t k => castTop (efD m a1 p2 p3 q4) k
  have pre1 : ∀ t_, Steps p.tables e below (s₁.setTop (mkF m 5 #[.val (.ref a1), .val (.int p2), .val (.int p3), .val (.long q4), .second, .val (.int (p2 * (4 : Int32))), .unset, .unset, .unset, .unset, .unset, .unset, .unset, .unset] [])) t_ → Steps p.tables e below (s₁.setTop (entryFrame m #[(.ref a1), (.int p2), (.int p3), (.long q4)] 14)) t_ := fun t_ k_ => pre0 t_ (by
      refine XS.iloadN X0.here hx rfl (hb hby dD_0) rfl ?_
      show Steps p.tables e below (s₁.setTop (mkF m 1 #[.val (.ref a1), .val (.int p2), .val (.int p3), .val (.long q4), .second, .unset, .unset, .unset, .unset, .unset, .unset, .unset, .unset, .unset] [(.int p2)])) _
      refine XS.iconst X0.here hx rfl (hb hby dD_1) ?_
      show Steps p.tables e below (s₁.setTop (mkF m 2 #[.val (.ref a1), .val (.int p2), .val (.int p3), .val (.long q4), .second, .unset, .unset, .unset, .unset, .unset, .unset, .unset, .unset, .unset] [(.int (4 : Int32)), (.int p2)])) _
      refine XS.imul X0.here hx rfl (hb hby dD_2) rfl ?_
      show Steps p.tables e below (s₁.setTop (mkF m 3 #[.val (.ref a1), .val (.int p2), .val (.int p3), .val (.long q4), .second, .unset, .unset, .unset, .unset, .unset, .unset, .unset, .unset, .unset] [(.int (p2 * (4 : Int32)))])) _
      refine XS.istore X0.here hx rfl (hb hby dD_3) rfl (l' := #[.val (.ref a1), .val (.int p2), .val (.int p3), .val (.long q4), .second, .val (.int (p2 * (4 : Int32))), .unset, .unset, .unset, .unset, .unset, .unset, .unset, .unset]) rfl ?_
      show Steps p.tables e below (s₁.setTop (mkF m 5 #[.val (.ref a1), .val (.int p2), .val (.int p3), .val (.long q4), .second, .val (.int (p2 * (4 : Int32))), .unset, .unset, .unset, .unset, .unset, .unset, .unset, .unset] [])) _
      exact k_)
  obtain ⟨at4, e_at4⟩ : ∃ z : Int32, z = (p2 * (4 : Int32)) := ⟨_, rfl⟩
  have pre2 : ∀ t_, Steps p.tables e below (s₁.setTop (mkF m 5 #[.val (.ref a1), .val (.int p2), .val (.int p3), .val (.long q4), .second, .val (.int at4), .unset, .unset, .unset, .unset, .unset, .unset, .unset, .unset] [])) t_ → Steps p.tables e below (s₁.setTop (entryFrame m #[(.ref a1), (.int p2), (.int p3), (.long q4)] 14)) t_ := by subst e_at4; exact pre1
  have hat : at4.toInt = ((4 * nd : Nat) : Int) := by rw [e_at4, own_mulc (c := 4) rfl hnd (by omega) (by decide)]; omega
  obtain ⟨T3, X3, e3, st3⟩ := getF X0 hx hZ hown (host := "") (Or.inl (hw _ (List.mem_of_getElem? (i := 48) rfl))) Via.refl e0 F2 (g := (mkF m 6 #[.val (.ref a1), .val (.int p2), .val (.int p3), .val (.long q4), .second, .val (.int at4), .unset, .unset, .unset, .unset, .unset, .unset, .unset, .unset] [(.ref a1)])) rfl rfl (hb hby dD_6)
  obtain ⟨T4, X4, e4, st4⟩ := getF X3 hx hZ hown (host := "") (Or.inl (hw _ (List.mem_of_getElem? (i := 48) rfl))) Via.refl e3 F2 (g := (mkF m 14 #[.val (.ref a1), .val (.int p2), .val (.int p3), .val (.long q4), .second, .val (.int at4), .unset, .unset, .unset, .unset, .unset, .unset, .unset, .unset] [(.ref a1), (.int (at4 + (0 : Int32))), (.ref nc)])) rfl rfl (hb hby dD_14)
  obtain ⟨_, _, ⟨T5, L5, k5, n5⟩, -, X5, ⟨Lc5, hQ5, l5, y5, z5⟩, st5⟩ := Jvm.LawKit.callS X4 hx (y := (⟨"java/lang/Math", "addExact", "(JJ)J"⟩ : MethodName)) hown (mvT hZ (hw _ (List.mem_of_getElem? (i := 98) rfl))) (mvT hZ (hw _ (List.mem_of_getElem? (i := 99) rfl))) (mvT hZ (hw _ (List.mem_of_getElem? (i := 100) rfl))) (mvT hZ (hw _ (List.mem_of_getElem? (i := 101) rfl))) (by decide) (backOf (W := 2) (rmAE l Z a0 hw [] ((ct (4 * nd + 0))) q4  h0 n0 Z0 hb0 (by omega) hb1) hZ (hw _ (List.mem_of_getElem? (i := 101) rfl)) (hw _ (List.mem_of_getElem? (i := 100) rfl)) (by decide) (by decide)) (g := (mkF m 23 #[.val (.ref a1), .val (.int p2), .val (.int p3), .val (.long q4), .second, .val (.int at4), .unset, .unset, .unset, .unset, .unset, .unset, .unset, .unset] [(.long q4), (.long (ct (4 * nd + 0))), (.int (at4 + (0 : Int32))), (.ref nc)])) rfl (by rw [hml]; rfl) (argsL := [(.long (ct (4 * nd + 0))), (.long q4)]) (rest := [(.int (at4 + (0 : Int32))), (.ref nc)]) (lenOf pdD_0 rfl) rfl (by show 2 * 0 + _ ≤ _; exact Nat.le_of_eq rfl) (hb hby dD_23) (fun _ _ => ⟨rfl, e4, (by decide : 0 + 0 ≤ _), (by decide : 0 + 0 ≤ _)⟩)
  dsimp only [Pt.U, Pt.locs, Pt.cells, Pt.slots] at X5 l5 y5 z5 st5 hQ5
  subst l5 y5 z5
  obtain ⟨rfl, N5q, e5⟩ := hQ5
  have N5 := Fr.app N0 N5q
  obtain ⟨T6, h6, X6, e6, W6, A6, st6⟩ := oStJ X5 hx hZ e5 A1 (k := (4 * nd + 0)) (own_addc (c := 0) rfl hat (by omega) (by decide)) (by omega) (g := (mkF m 26 #[.val (.ref a1), .val (.int p2), .val (.int p3), .val (.long q4), .second, .val (.int at4), .unset, .unset, .unset, .unset, .unset, .unset, .unset, .unset] [(.long (ct (4 * nd + 0) + q4)), (.int (at4 + (0 : Int32))), (.ref nc)])) rfl rfl (hb hby dD_26)
  have f7 := F2.other W6 (Or.inl d_a1_nc)
  have f8 := F3.other W6 (Or.inl d_a1_nc)
  have f9 := LM0.other W6 (Ne.symm d_nc_pm) (Ne.symm d_nc_sl) (Ne.symm d_nc_us)
  have f10 := LM0.1.wr W6
  have N6 := Fr.snoc X6 N5 g_nc
  have K6 := (Keep.refl h0 [nc, pm, sl, us]).wr W6 (Or.inl (List.mem_of_getElem? (i := 0) rfl))
  have Z6 : n0 ≤ h6.size := Nat.le_trans Z0 (Keep.of_wr W6).1
  have Ac11 := A6.congr (own_ul ct (4 * nd + 0) (ct (4 * nd + 0) + q4))
  obtain ⟨_, _, ⟨T12, L12, k12, n12⟩, -, X12, ⟨Lc12, hQ12, l12, y12, z12⟩, st12⟩ := Jvm.LawKit.callS X6 hx (y := (⟨"com/example/headwater/headwater/headdriven/EventCounts", "_key", "(II)J"⟩ : MethodName)) hown (mvT hZ (hw _ (List.mem_of_getElem? (i := 59) rfl))) (mvT hZ (hw _ (List.mem_of_getElem? (i := 60) rfl))) (mvT hZ (hw _ (List.mem_of_getElem? (i := 4) rfl))) (mvT hZ (hw _ (List.mem_of_getElem? (i := 61) rfl))) (by decide) (backOf (W := 0) (rmY l Z a0 hw [] p2 p3  h6 n0 Z6) hZ (hw _ (List.mem_of_getElem? (i := 61) rfl)) (hw _ (List.mem_of_getElem? (i := 4) rfl)) (by decide) (by decide)) (g := (mkF m 29 #[.val (.ref a1), .val (.int p2), .val (.int p3), .val (.long q4), .second, .val (.int at4), .unset, .unset, .unset, .unset, .unset, .unset, .unset, .unset] [(.int p3), (.int p2)])) rfl (by rw [hml]; rfl) (argsL := [(.int p2), (.int p3)]) (rest := []) (lenOf pdD_1 rfl) rfl (by show 2 * 0 + _ ≤ _; exact Nat.le_of_eq rfl) (hb hby dD_29) (fun _ _ => ⟨rfl, e6, (by decide : 0 + 0 ≤ _), (by decide : 0 + 0 ≤ _)⟩)
  dsimp only [Pt.U, Pt.locs, Pt.cells, Pt.slots] at X12 l12 y12 z12 st12 hQ12
  subst l12 y12 z12
  obtain ⟨rfl, N12q, e12⟩ := hQ12
  have N12 := Fr.app N6 N12q
  obtain ⟨T13, X13, e13, st13⟩ := getF X12 hx hZ hown (host := "") (Or.inl (hw _ (List.mem_of_getElem? (i := 50) rfl))) Via.refl e12 f8 (g := (mkF m 35 #[.val (.ref a1), .val (.int p2), .val (.int p3), .val (.long q4), .second, .val (.int at4), .val (.long (own_key p2 p3)), .second, .unset, .unset, .unset, .unset, .unset, .unset] [(.ref a1)])) rfl rfl (hb hby dD_35)
  obtain ⟨cq14, kq14, q14a, q14b, q14c⟩ := isOf hZ e13 f10
  obtain ⟨_, _, ⟨T14, L14, k14, n14⟩, -, X14, ⟨Lc14, hQ14, l14, y14, z14⟩, st14⟩ := X13.virtualBack hx (y := (⟨"com/example/headwater/headwater/headdriven/LongMap", "get", "(JJ)J"⟩ : MethodName)) (z := (⟨"com/example/headwater/headwater/headdriven/LongMap", "get", "(JJ)J"⟩ : MethodName)) hown (mvT hZ (hw _ (List.mem_of_getElem? (i := 102) rfl))) (mvT hZ (hw _ (List.mem_of_getElem? (i := 79) rfl))) (notFace_of_selects (args := #[]) (mvT hZ (hw _ (List.mem_of_getElem? (i := 81) rfl)))) (mvT hZ (hw _ (List.mem_of_getElem? (i := 81) rfl))) (mvT hZ (hw _ (List.mem_of_getElem? (i := 80) rfl))) (by decide) (backOf (W := 0) (rmH l Z a0 hw [] pm ((own_key p2 p3)) ((0 : Int64)) sl us M n h6 n0 Z6 f9 (by omega) hq) hZ (hw _ (List.mem_of_getElem? (i := 82) rfl)) (hw _ (List.mem_of_getElem? (i := 13) rfl)) (by decide) (by decide)) q14a q14c (g := (mkF m 41 #[.val (.ref a1), .val (.int p2), .val (.int p3), .val (.long q4), .second, .val (.int at4), .val (.long (own_key p2 p3)), .second, .unset, .unset, .unset, .unset, .unset, .unset] [(.long (0 : Int64)), (.long (own_key p2 p3)), (.ref pm)])) rfl (by rw [hml]; rfl) (Steps.refl _) (argsL := [(.long (own_key p2 p3)), (.long (0 : Int64))]) (rest := []) (lenOf pdD_0 rfl) rfl (by show 2 * 0 + _ ≤ _; exact Nat.le_of_eq rfl) (hb hby dD_41) (fun _ _ => ⟨rfl, e13, (by decide : 0 + 0 ≤ _), (by decide : 0 + 0 ≤ _)⟩)
  dsimp only [Pt.U, Pt.locs, Pt.cells, Pt.slots] at X14 l14 y14 z14 st14 hQ14
  subst l14 y14 z14
  obtain ⟨rfl, N14q, e14⟩ := hQ14
  have N14 := Fr.app N12 N14q
  obtain ⟨_, _, ⟨T15, L15, k15, n15⟩, -, X15, ⟨Lc15, hQ15, l15, y15, z15⟩, st15⟩ := Jvm.LawKit.callS X14 hx (y := (⟨"java/lang/Math", "addExact", "(JJ)J"⟩ : MethodName)) hown (mvT hZ (hw _ (List.mem_of_getElem? (i := 98) rfl))) (mvT hZ (hw _ (List.mem_of_getElem? (i := 99) rfl))) (mvT hZ (hw _ (List.mem_of_getElem? (i := 100) rfl))) (mvT hZ (hw _ (List.mem_of_getElem? (i := 101) rfl))) (by decide) (backOf (W := 0) (rmAE l Z a0 hw [] (((M (own_key p2 p3)).getD (0 : Int64))) q4  h6 n0 Z6 hb2 (by omega) hb3) hZ (hw _ (List.mem_of_getElem? (i := 101) rfl)) (hw _ (List.mem_of_getElem? (i := 100) rfl)) (by decide) (by decide)) (g := (mkF m 49 #[.val (.ref a1), .val (.int p2), .val (.int p3), .val (.long q4), .second, .val (.int at4), .val (.long (own_key p2 p3)), .second, .val (.long ((M (own_key p2 p3)).getD (0 : Int64))), .second, .unset, .unset, .unset, .unset] [(.long q4), (.long ((M (own_key p2 p3)).getD (0 : Int64)))])) rfl (by rw [hml]; rfl) (argsL := [(.long ((M (own_key p2 p3)).getD (0 : Int64))), (.long q4)]) (rest := []) (lenOf pdD_0 rfl) rfl (by show 2 * 0 + _ ≤ _; exact Nat.le_of_eq rfl) (hb hby dD_49) (fun _ _ => ⟨rfl, e14, (by decide : 0 + 0 ≤ _), (by decide : 0 + 0 ≤ _)⟩)
  dsimp only [Pt.U, Pt.locs, Pt.cells, Pt.slots] at X15 l15 y15 z15 st15 hQ15
  subst l15 y15 z15
  obtain ⟨rfl, N15q, e15⟩ := hQ15
  have N15 := Fr.app N14 N15q
  obtain ⟨T16, X16, e16, st16⟩ := getF X15 hx hZ hown (host := "") (Or.inl (hw _ (List.mem_of_getElem? (i := 50) rfl))) Via.refl e15 f8 (g := (mkF m 55 #[.val (.ref a1), .val (.int p2), .val (.int p3), .val (.long q4), .second, .val (.int at4), .val (.long (own_key p2 p3)), .second, .val (.long ((M (own_key p2 p3)).getD (0 : Int64))), .second, .val (.long (((M (own_key p2 p3)).getD (0 : Int64)) + q4)), .second, .unset, .unset] [(.ref a1)])) rfl rfl (hb hby dD_55)
  obtain ⟨cq17, kq17, q17a, q17b, q17c⟩ := isOf hZ e16 f10
  obtain ⟨_, _, ⟨T17, L17, k17, n17⟩, -, X17, ⟨Lc17, hQ17, l17, y17, z17⟩, st17⟩ := X16.virtualBack hx (y := (⟨"com/example/headwater/headwater/headdriven/LongMap", "put", "(JJ)V"⟩ : MethodName)) (z := (⟨"com/example/headwater/headwater/headdriven/LongMap", "put", "(JJ)V"⟩ : MethodName)) hown (mvT hZ (hw _ (List.mem_of_getElem? (i := 103) rfl))) (mvT hZ (hw _ (List.mem_of_getElem? (i := 89) rfl))) (notFace_of_selects (args := #[]) (mvT hZ (hw _ (List.mem_of_getElem? (i := 91) rfl)))) (mvT hZ (hw _ (List.mem_of_getElem? (i := 91) rfl))) (mvT hZ (hw _ (List.mem_of_getElem? (i := 90) rfl))) (by decide) (backOf (W := 0) (rmP l Z a0 hw [] pm ((own_key p2 p3)) ((((M (own_key p2 p3)).getD (0 : Int64)) + q4)) sl us M n h6 n0 Z6 f9 hn hq d_pm_sl d_pm_us d_sl_us g_pm g_sl g_us) hZ (hw _ (List.mem_of_getElem? (i := 92) rfl)) (hw _ (List.mem_of_getElem? (i := 13) rfl)) (by decide) (by decide)) q17a q17c (g := (mkF m 62 #[.val (.ref a1), .val (.int p2), .val (.int p3), .val (.long q4), .second, .val (.int at4), .val (.long (own_key p2 p3)), .second, .val (.long ((M (own_key p2 p3)).getD (0 : Int64))), .second, .val (.long (((M (own_key p2 p3)).getD (0 : Int64)) + q4)), .second, .unset, .unset] [(.long (((M (own_key p2 p3)).getD (0 : Int64)) + q4)), (.long (own_key p2 p3)), (.ref pm)])) rfl (by rw [hml]; rfl) (Steps.refl _) (argsL := [(.long (own_key p2 p3)), (.long (((M (own_key p2 p3)).getD (0 : Int64)) + q4))]) (rest := []) (lenOf pdD_2 rfl) rfl (by show 2 * 0 + _ ≤ _; exact Nat.le_of_eq rfl) (hb hby dD_62) (fun _ _ => ⟨rfl, e16, (by decide : 0 + 0 ≤ _), (by decide : 0 + 0 ≤ _)⟩)
  dsimp only [Pt.U, Pt.locs, Pt.cells, Pt.slots] at X17 l17 y17 z17 st17 hQ17
  subst l17 y17 z17
  obtain ⟨rfl, N17q, K17, LM17⟩ := hQ17
  have N17 := Fr.app N15 N17q
  have f18 := f7.keep K17 (ninS d_a1_pm (ninS d_a1_sl (ninS d_a1_us nin0)))
  have f19 := f8.keep K17 (ninS d_a1_pm (ninS d_a1_sl (ninS d_a1_us nin0)))
  have f20 := Ac11.keep K17 (ninS d_nc_pm (ninS d_nc_sl (ninS d_nc_us nin0)))
  have f21 := f10.keep K17
  have Z17 : n0 ≤ T17.heap.size := Nat.le_trans Z6 K17.1
  have KK17 := K6.trans K17 (allS (Or.inl (List.mem_of_getElem? (i := 1) rfl)) (allS (Or.inl (List.mem_of_getElem? (i := 2) rfl)) (allS (Or.inl (List.mem_of_getElem? (i := 3) rfl)) all0)))
  obtain ⟨T22, X22, e22, st22⟩ := getF X17 hx hZ hown (host := "") (Or.inl (hw _ (List.mem_of_getElem? (i := 48) rfl))) Via.refl rfl f18 (g := (mkF m 66 #[.val (.ref a1), .val (.int p2), .val (.int p3), .val (.long q4), .second, .val (.int at4), .val (.long (own_key p2 p3)), .second, .val (.long ((M (own_key p2 p3)).getD (0 : Int64))), .second, .val (.long (((M (own_key p2 p3)).getD (0 : Int64)) + q4)), .second, .unset, .unset] [(.ref a1)])) rfl rfl (hb hby dD_66)
  have pre23 : ∀ t_, Steps p.tables e below (T22.setTop (mkF m 78 #[.val (.ref a1), .val (.int p2), .val (.int p3), .val (.long q4), .second, .val (.int at4), .val (.long (own_key p2 p3)), .second, .val (.long ((M (own_key p2 p3)).getD (0 : Int64))), .second, .val (.long (((M (own_key p2 p3)).getD (0 : Int64)) + q4)), .second, .unset, .unset] [(.int (lcmpW ((M (own_key p2 p3)).getD (0 : Int64)) (0 : Int64))), (.long (ct (4 * nd + 3)))])) t_ → Steps p.tables e below (s₁.setTop (entryFrame m #[(.ref a1), (.int p2), (.int p3), (.long q4)] 14)) t_ := fun t_ k_ => pre2 t_ (by
      refine XS.aloadN X0.here hx rfl (hb hby dD_5) rfl rfl ?_
      show Steps p.tables e below (s₁.setTop (mkF m 6 #[.val (.ref a1), .val (.int p2), .val (.int p3), .val (.long q4), .second, .val (.int at4), .unset, .unset, .unset, .unset, .unset, .unset, .unset, .unset] [(.ref a1)])) _
      refine st3 _ ?_
      show Steps p.tables e below (T3.setTop (mkF m 9 #[.val (.ref a1), .val (.int p2), .val (.int p3), .val (.long q4), .second, .val (.int at4), .unset, .unset, .unset, .unset, .unset, .unset, .unset, .unset] [(.ref nc)])) _
      refine XS.iload X3.here hx rfl (hb hby dD_9) rfl ?_
      show Steps p.tables e below (T3.setTop (mkF m 11 #[.val (.ref a1), .val (.int p2), .val (.int p3), .val (.long q4), .second, .val (.int at4), .unset, .unset, .unset, .unset, .unset, .unset, .unset, .unset] [(.int at4), (.ref nc)])) _
      refine XS.iconst X3.here hx rfl (hb hby dD_11) ?_
      show Steps p.tables e below (T3.setTop (mkF m 12 #[.val (.ref a1), .val (.int p2), .val (.int p3), .val (.long q4), .second, .val (.int at4), .unset, .unset, .unset, .unset, .unset, .unset, .unset, .unset] [(.int (0 : Int32)), (.int at4), (.ref nc)])) _
      refine XS.iadd X3.here hx rfl (hb hby dD_12) rfl ?_
      show Steps p.tables e below (T3.setTop (mkF m 13 #[.val (.ref a1), .val (.int p2), .val (.int p3), .val (.long q4), .second, .val (.int at4), .unset, .unset, .unset, .unset, .unset, .unset, .unset, .unset] [(.int (at4 + (0 : Int32))), (.ref nc)])) _
      refine XS.aloadN X3.here hx rfl (hb hby dD_13) rfl rfl ?_
      show Steps p.tables e below (T3.setTop (mkF m 14 #[.val (.ref a1), .val (.int p2), .val (.int p3), .val (.long q4), .second, .val (.int at4), .unset, .unset, .unset, .unset, .unset, .unset, .unset, .unset] [(.ref a1), (.int (at4 + (0 : Int32))), (.ref nc)])) _
      refine st4 _ ?_
      show Steps p.tables e below (T4.setTop (mkF m 17 #[.val (.ref a1), .val (.int p2), .val (.int p3), .val (.long q4), .second, .val (.int at4), .unset, .unset, .unset, .unset, .unset, .unset, .unset, .unset] [(.ref nc), (.int (at4 + (0 : Int32))), (.ref nc)])) _
      refine XS.iload X4.here hx rfl (hb hby dD_17) rfl ?_
      show Steps p.tables e below (T4.setTop (mkF m 19 #[.val (.ref a1), .val (.int p2), .val (.int p3), .val (.long q4), .second, .val (.int at4), .unset, .unset, .unset, .unset, .unset, .unset, .unset, .unset] [(.int at4), (.ref nc), (.int (at4 + (0 : Int32))), (.ref nc)])) _
      refine XS.iconst X4.here hx rfl (hb hby dD_19) ?_
      show Steps p.tables e below (T4.setTop (mkF m 20 #[.val (.ref a1), .val (.int p2), .val (.int p3), .val (.long q4), .second, .val (.int at4), .unset, .unset, .unset, .unset, .unset, .unset, .unset, .unset] [(.int (0 : Int32)), (.int at4), (.ref nc), (.int (at4 + (0 : Int32))), (.ref nc)])) _
      refine XS.iadd X4.here hx rfl (hb hby dD_20) rfl ?_
      show Steps p.tables e below (T4.setTop (mkF m 21 #[.val (.ref a1), .val (.int p2), .val (.int p3), .val (.long q4), .second, .val (.int at4), .unset, .unset, .unset, .unset, .unset, .unset, .unset, .unset] [(.int (at4 + (0 : Int32))), (.ref nc), (.int (at4 + (0 : Int32))), (.ref nc)])) _
      refine oLdJ X4 hx hZ e4 A1 (k := (4 * nd + 0)) (own_addc (c := 0) rfl hat (by omega) (by decide)) (by omega) (v := (ct (4 * nd + 0))) rfl (g := (mkF m 21 #[.val (.ref a1), .val (.int p2), .val (.int p3), .val (.long q4), .second, .val (.int at4), .unset, .unset, .unset, .unset, .unset, .unset, .unset, .unset] [(.int (at4 + (0 : Int32))), (.ref nc), (.int (at4 + (0 : Int32))), (.ref nc)])) rfl rfl (hb hby dD_21) _ ?_
      show Steps p.tables e below (T4.setTop (mkF m 22 #[.val (.ref a1), .val (.int p2), .val (.int p3), .val (.long q4), .second, .val (.int at4), .unset, .unset, .unset, .unset, .unset, .unset, .unset, .unset] [(.long (ct (4 * nd + 0))), (.int (at4 + (0 : Int32))), (.ref nc)])) _
      refine XS.lloadN X4.here hx rfl (hb hby dD_22) rfl ?_
      show Steps p.tables e below (T4.setTop (mkF m 23 #[.val (.ref a1), .val (.int p2), .val (.int p3), .val (.long q4), .second, .val (.int at4), .unset, .unset, .unset, .unset, .unset, .unset, .unset, .unset] [(.long q4), (.long (ct (4 * nd + 0))), (.int (at4 + (0 : Int32))), (.ref nc)])) _
      refine st5 _ ?_
      show Steps p.tables e below (T5.setTop (mkF m 26 #[.val (.ref a1), .val (.int p2), .val (.int p3), .val (.long q4), .second, .val (.int at4), .unset, .unset, .unset, .unset, .unset, .unset, .unset, .unset] [(.long (ct (4 * nd + 0) + q4)), (.int (at4 + (0 : Int32))), (.ref nc)])) _
      refine st6 _ ?_
      show Steps p.tables e below (T6.setTop (mkF m 27 #[.val (.ref a1), .val (.int p2), .val (.int p3), .val (.long q4), .second, .val (.int at4), .unset, .unset, .unset, .unset, .unset, .unset, .unset, .unset] [])) _
      refine XS.iloadN X6.here hx rfl (hb hby dD_27) rfl ?_
      show Steps p.tables e below (T6.setTop (mkF m 28 #[.val (.ref a1), .val (.int p2), .val (.int p3), .val (.long q4), .second, .val (.int at4), .unset, .unset, .unset, .unset, .unset, .unset, .unset, .unset] [(.int p2)])) _
      refine XS.iloadN X6.here hx rfl (hb hby dD_28) rfl ?_
      show Steps p.tables e below (T6.setTop (mkF m 29 #[.val (.ref a1), .val (.int p2), .val (.int p3), .val (.long q4), .second, .val (.int at4), .unset, .unset, .unset, .unset, .unset, .unset, .unset, .unset] [(.int p3), (.int p2)])) _
      refine st12 _ ?_
      show Steps p.tables e below (T12.setTop (mkF m 32 #[.val (.ref a1), .val (.int p2), .val (.int p3), .val (.long q4), .second, .val (.int at4), .unset, .unset, .unset, .unset, .unset, .unset, .unset, .unset] [(.long (own_key p2 p3))])) _
      refine XS.lstore X12.here hx rfl (hb hby dD_32) rfl (l' := #[.val (.ref a1), .val (.int p2), .val (.int p3), .val (.long q4), .second, .val (.int at4), .val (.long (own_key p2 p3)), .second, .unset, .unset, .unset, .unset, .unset, .unset]) rfl ?_
      show Steps p.tables e below (T12.setTop (mkF m 34 #[.val (.ref a1), .val (.int p2), .val (.int p3), .val (.long q4), .second, .val (.int at4), .val (.long (own_key p2 p3)), .second, .unset, .unset, .unset, .unset, .unset, .unset] [])) _
      refine XS.aloadN X12.here hx rfl (hb hby dD_34) rfl rfl ?_
      show Steps p.tables e below (T12.setTop (mkF m 35 #[.val (.ref a1), .val (.int p2), .val (.int p3), .val (.long q4), .second, .val (.int at4), .val (.long (own_key p2 p3)), .second, .unset, .unset, .unset, .unset, .unset, .unset] [(.ref a1)])) _
      refine st13 _ ?_
      show Steps p.tables e below (T13.setTop (mkF m 38 #[.val (.ref a1), .val (.int p2), .val (.int p3), .val (.long q4), .second, .val (.int at4), .val (.long (own_key p2 p3)), .second, .unset, .unset, .unset, .unset, .unset, .unset] [(.ref pm)])) _
      refine XS.lload X13.here hx rfl (hb hby dD_38) rfl ?_
      show Steps p.tables e below (T13.setTop (mkF m 40 #[.val (.ref a1), .val (.int p2), .val (.int p3), .val (.long q4), .second, .val (.int at4), .val (.long (own_key p2 p3)), .second, .unset, .unset, .unset, .unset, .unset, .unset] [(.long (own_key p2 p3)), (.ref pm)])) _
      refine XS.lconst X13.here hx rfl (hb hby dD_40) ?_
      show Steps p.tables e below (T13.setTop (mkF m 41 #[.val (.ref a1), .val (.int p2), .val (.int p3), .val (.long q4), .second, .val (.int at4), .val (.long (own_key p2 p3)), .second, .unset, .unset, .unset, .unset, .unset, .unset] [(.long (0 : Int64)), (.long (own_key p2 p3)), (.ref pm)])) _
      refine st14.trans ?_
      show Steps p.tables e below (T14.setTop (mkF m 44 #[.val (.ref a1), .val (.int p2), .val (.int p3), .val (.long q4), .second, .val (.int at4), .val (.long (own_key p2 p3)), .second, .unset, .unset, .unset, .unset, .unset, .unset] [(.long ((M (own_key p2 p3)).getD (0 : Int64)))])) _
      refine XS.lstore X14.here hx rfl (hb hby dD_44) rfl (l' := #[.val (.ref a1), .val (.int p2), .val (.int p3), .val (.long q4), .second, .val (.int at4), .val (.long (own_key p2 p3)), .second, .val (.long ((M (own_key p2 p3)).getD (0 : Int64))), .second, .unset, .unset, .unset, .unset]) rfl ?_
      show Steps p.tables e below (T14.setTop (mkF m 46 #[.val (.ref a1), .val (.int p2), .val (.int p3), .val (.long q4), .second, .val (.int at4), .val (.long (own_key p2 p3)), .second, .val (.long ((M (own_key p2 p3)).getD (0 : Int64))), .second, .unset, .unset, .unset, .unset] [])) _
      refine XS.lload X14.here hx rfl (hb hby dD_46) rfl ?_
      show Steps p.tables e below (T14.setTop (mkF m 48 #[.val (.ref a1), .val (.int p2), .val (.int p3), .val (.long q4), .second, .val (.int at4), .val (.long (own_key p2 p3)), .second, .val (.long ((M (own_key p2 p3)).getD (0 : Int64))), .second, .unset, .unset, .unset, .unset] [(.long ((M (own_key p2 p3)).getD (0 : Int64)))])) _
      refine XS.lloadN X14.here hx rfl (hb hby dD_48) rfl ?_
      show Steps p.tables e below (T14.setTop (mkF m 49 #[.val (.ref a1), .val (.int p2), .val (.int p3), .val (.long q4), .second, .val (.int at4), .val (.long (own_key p2 p3)), .second, .val (.long ((M (own_key p2 p3)).getD (0 : Int64))), .second, .unset, .unset, .unset, .unset] [(.long q4), (.long ((M (own_key p2 p3)).getD (0 : Int64)))])) _
      refine st15 _ ?_
      show Steps p.tables e below (T15.setTop (mkF m 52 #[.val (.ref a1), .val (.int p2), .val (.int p3), .val (.long q4), .second, .val (.int at4), .val (.long (own_key p2 p3)), .second, .val (.long ((M (own_key p2 p3)).getD (0 : Int64))), .second, .unset, .unset, .unset, .unset] [(.long (((M (own_key p2 p3)).getD (0 : Int64)) + q4))])) _
      refine XS.lstore X15.here hx rfl (hb hby dD_52) rfl (l' := #[.val (.ref a1), .val (.int p2), .val (.int p3), .val (.long q4), .second, .val (.int at4), .val (.long (own_key p2 p3)), .second, .val (.long ((M (own_key p2 p3)).getD (0 : Int64))), .second, .val (.long (((M (own_key p2 p3)).getD (0 : Int64)) + q4)), .second, .unset, .unset]) rfl ?_
      show Steps p.tables e below (T15.setTop (mkF m 54 #[.val (.ref a1), .val (.int p2), .val (.int p3), .val (.long q4), .second, .val (.int at4), .val (.long (own_key p2 p3)), .second, .val (.long ((M (own_key p2 p3)).getD (0 : Int64))), .second, .val (.long (((M (own_key p2 p3)).getD (0 : Int64)) + q4)), .second, .unset, .unset] [])) _
      refine XS.aloadN X15.here hx rfl (hb hby dD_54) rfl rfl ?_
      show Steps p.tables e below (T15.setTop (mkF m 55 #[.val (.ref a1), .val (.int p2), .val (.int p3), .val (.long q4), .second, .val (.int at4), .val (.long (own_key p2 p3)), .second, .val (.long ((M (own_key p2 p3)).getD (0 : Int64))), .second, .val (.long (((M (own_key p2 p3)).getD (0 : Int64)) + q4)), .second, .unset, .unset] [(.ref a1)])) _
      refine st16 _ ?_
      show Steps p.tables e below (T16.setTop (mkF m 58 #[.val (.ref a1), .val (.int p2), .val (.int p3), .val (.long q4), .second, .val (.int at4), .val (.long (own_key p2 p3)), .second, .val (.long ((M (own_key p2 p3)).getD (0 : Int64))), .second, .val (.long (((M (own_key p2 p3)).getD (0 : Int64)) + q4)), .second, .unset, .unset] [(.ref pm)])) _
      refine XS.lload X16.here hx rfl (hb hby dD_58) rfl ?_
      show Steps p.tables e below (T16.setTop (mkF m 60 #[.val (.ref a1), .val (.int p2), .val (.int p3), .val (.long q4), .second, .val (.int at4), .val (.long (own_key p2 p3)), .second, .val (.long ((M (own_key p2 p3)).getD (0 : Int64))), .second, .val (.long (((M (own_key p2 p3)).getD (0 : Int64)) + q4)), .second, .unset, .unset] [(.long (own_key p2 p3)), (.ref pm)])) _
      refine XS.lload X16.here hx rfl (hb hby dD_60) rfl ?_
      show Steps p.tables e below (T16.setTop (mkF m 62 #[.val (.ref a1), .val (.int p2), .val (.int p3), .val (.long q4), .second, .val (.int at4), .val (.long (own_key p2 p3)), .second, .val (.long ((M (own_key p2 p3)).getD (0 : Int64))), .second, .val (.long (((M (own_key p2 p3)).getD (0 : Int64)) + q4)), .second, .unset, .unset] [(.long (((M (own_key p2 p3)).getD (0 : Int64)) + q4)), (.long (own_key p2 p3)), (.ref pm)])) _
      refine st17.trans ?_
      show Steps p.tables e below (T17.setTop (mkF m 65 #[.val (.ref a1), .val (.int p2), .val (.int p3), .val (.long q4), .second, .val (.int at4), .val (.long (own_key p2 p3)), .second, .val (.long ((M (own_key p2 p3)).getD (0 : Int64))), .second, .val (.long (((M (own_key p2 p3)).getD (0 : Int64)) + q4)), .second, .unset, .unset] [])) _
      refine XS.aloadN X17.here hx rfl (hb hby dD_65) rfl rfl ?_
      show Steps p.tables e below (T17.setTop (mkF m 66 #[.val (.ref a1), .val (.int p2), .val (.int p3), .val (.long q4), .second, .val (.int at4), .val (.long (own_key p2 p3)), .second, .val (.long ((M (own_key p2 p3)).getD (0 : Int64))), .second, .val (.long (((M (own_key p2 p3)).getD (0 : Int64)) + q4)), .second, .unset, .unset] [(.ref a1)])) _
      refine st22 _ ?_
      show Steps p.tables e below (T22.setTop (mkF m 69 #[.val (.ref a1), .val (.int p2), .val (.int p3), .val (.long q4), .second, .val (.int at4), .val (.long (own_key p2 p3)), .second, .val (.long ((M (own_key p2 p3)).getD (0 : Int64))), .second, .val (.long (((M (own_key p2 p3)).getD (0 : Int64)) + q4)), .second, .unset, .unset] [(.ref nc)])) _
      refine XS.iload X22.here hx rfl (hb hby dD_69) rfl ?_
      show Steps p.tables e below (T22.setTop (mkF m 71 #[.val (.ref a1), .val (.int p2), .val (.int p3), .val (.long q4), .second, .val (.int at4), .val (.long (own_key p2 p3)), .second, .val (.long ((M (own_key p2 p3)).getD (0 : Int64))), .second, .val (.long (((M (own_key p2 p3)).getD (0 : Int64)) + q4)), .second, .unset, .unset] [(.int at4), (.ref nc)])) _
      refine XS.iconst X22.here hx rfl (hb hby dD_71) ?_
      show Steps p.tables e below (T22.setTop (mkF m 72 #[.val (.ref a1), .val (.int p2), .val (.int p3), .val (.long q4), .second, .val (.int at4), .val (.long (own_key p2 p3)), .second, .val (.long ((M (own_key p2 p3)).getD (0 : Int64))), .second, .val (.long (((M (own_key p2 p3)).getD (0 : Int64)) + q4)), .second, .unset, .unset] [(.int (3 : Int32)), (.int at4), (.ref nc)])) _
      refine XS.iadd X22.here hx rfl (hb hby dD_72) rfl ?_
      show Steps p.tables e below (T22.setTop (mkF m 73 #[.val (.ref a1), .val (.int p2), .val (.int p3), .val (.long q4), .second, .val (.int at4), .val (.long (own_key p2 p3)), .second, .val (.long ((M (own_key p2 p3)).getD (0 : Int64))), .second, .val (.long (((M (own_key p2 p3)).getD (0 : Int64)) + q4)), .second, .unset, .unset] [(.int (at4 + (3 : Int32))), (.ref nc)])) _
      refine oLdJ X22 hx hZ e22 f20 (k := (4 * nd + 3)) (own_addc (c := 3) rfl hat (by omega) (by decide)) (by omega) (v := (ct (4 * nd + 3))) (congrArg Value.long (by rw [own_u_ne (by omega)])) (g := (mkF m 73 #[.val (.ref a1), .val (.int p2), .val (.int p3), .val (.long q4), .second, .val (.int at4), .val (.long (own_key p2 p3)), .second, .val (.long ((M (own_key p2 p3)).getD (0 : Int64))), .second, .val (.long (((M (own_key p2 p3)).getD (0 : Int64)) + q4)), .second, .unset, .unset] [(.int (at4 + (3 : Int32))), (.ref nc)])) rfl rfl (hb hby dD_73) _ ?_
      show Steps p.tables e below (T22.setTop (mkF m 74 #[.val (.ref a1), .val (.int p2), .val (.int p3), .val (.long q4), .second, .val (.int at4), .val (.long (own_key p2 p3)), .second, .val (.long ((M (own_key p2 p3)).getD (0 : Int64))), .second, .val (.long (((M (own_key p2 p3)).getD (0 : Int64)) + q4)), .second, .unset, .unset] [(.long (ct (4 * nd + 3)))])) _
      refine XS.lload X22.here hx rfl (hb hby dD_74) rfl ?_
      show Steps p.tables e below (T22.setTop (mkF m 76 #[.val (.ref a1), .val (.int p2), .val (.int p3), .val (.long q4), .second, .val (.int at4), .val (.long (own_key p2 p3)), .second, .val (.long ((M (own_key p2 p3)).getD (0 : Int64))), .second, .val (.long (((M (own_key p2 p3)).getD (0 : Int64)) + q4)), .second, .unset, .unset] [(.long ((M (own_key p2 p3)).getD (0 : Int64))), (.long (ct (4 * nd + 3)))])) _
      refine XS.lconst X22.here hx rfl (hb hby dD_76) ?_
      show Steps p.tables e below (T22.setTop (mkF m 77 #[.val (.ref a1), .val (.int p2), .val (.int p3), .val (.long q4), .second, .val (.int at4), .val (.long (own_key p2 p3)), .second, .val (.long ((M (own_key p2 p3)).getD (0 : Int64))), .second, .val (.long (((M (own_key p2 p3)).getD (0 : Int64)) + q4)), .second, .unset, .unset] [(.long (0 : Int64)), (.long ((M (own_key p2 p3)).getD (0 : Int64))), (.long (ct (4 * nd + 3)))])) _
      refine XS.lcmp X22.here hx rfl (hb hby dD_77) rfl ?_
      show Steps p.tables e below (T22.setTop (mkF m 78 #[.val (.ref a1), .val (.int p2), .val (.int p3), .val (.long q4), .second, .val (.int at4), .val (.long (own_key p2 p3)), .second, .val (.long ((M (own_key p2 p3)).getD (0 : Int64))), .second, .val (.long (((M (own_key p2 p3)).getD (0 : Int64)) + q4)), .second, .unset, .unset] [(.int (lcmpW ((M (own_key p2 p3)).getD (0 : Int64)) (0 : Int64))), (.long (ct (4 * nd + 3)))])) _
      exact k_)
  obtain ⟨x24, hv24, pre24⟩ : ∃ (x24 : Int64), (x24 = (if ((M (own_key p2 p3)).getD (0 : Int64)) = 0 then (4294967296 : Int64) else 0)) ∧ ∀ t_, Steps p.tables e below (T22.setTop (mkF m 88 #[.val (.ref a1), .val (.int p2), .val (.int p3), .val (.long q4), .second, .val (.int at4), .val (.long (own_key p2 p3)), .second, .val (.long ((M (own_key p2 p3)).getD (0 : Int64))), .second, .val (.long (((M (own_key p2 p3)).getD (0 : Int64)) + q4)), .second, .unset, .unset] [(.long x24), (.long (ct (4 * nd + 3)))])) t_ → Steps p.tables e below (s₁.setTop (entryFrame m #[(.ref a1), (.int p2), (.int p3), (.long q4)] 14)) t_ := by
    by_cases c78_25 : (lcmpW ((M (own_key p2 p3)).getD (0 : Int64)) (0 : Int64)) = (0 : Int32)
    · have pre26 : ∀ t_, Steps p.tables e below (T22.setTop (mkF m 88 #[.val (.ref a1), .val (.int p2), .val (.int p3), .val (.long q4), .second, .val (.int at4), .val (.long (own_key p2 p3)), .second, .val (.long ((M (own_key p2 p3)).getD (0 : Int64))), .second, .val (.long (((M (own_key p2 p3)).getD (0 : Int64)) + q4)), .second, .unset, .unset] [(.long (4294967296 : Int64)), (.long (ct (4 * nd + 3)))])) t_ → Steps p.tables e below (s₁.setTop (entryFrame m #[(.ref a1), (.int p2), (.int p3), (.long q4)] 14)) t_ := fun t_ k_ => pre23 t_ (by
          refine XS.ifNo X22.here hx rfl (hb hby dD_78) rfl ((if0 _ _).trans (teq c78_25).2) ?_
          show Steps p.tables e below (T22.setTop (mkF m 81 #[.val (.ref a1), .val (.int p2), .val (.int p3), .val (.long q4), .second, .val (.int at4), .val (.long (own_key p2 p3)), .second, .val (.long ((M (own_key p2 p3)).getD (0 : Int64))), .second, .val (.long (((M (own_key p2 p3)).getD (0 : Int64)) + q4)), .second, .unset, .unset] [(.long (ct (4 * nd + 3)))])) _
          refine X22.ldc2Long hx hown (mvT hZ (hw _ (List.mem_of_getElem? (i := 104) rfl))) (g := (mkF m 81 #[.val (.ref a1), .val (.int p2), .val (.int p3), .val (.long q4), .second, .val (.int at4), .val (.long (own_key p2 p3)), .second, .val (.long ((M (own_key p2 p3)).getD (0 : Int64))), .second, .val (.long (((M (own_key p2 p3)).getD (0 : Int64)) + q4)), .second, .unset, .unset] [(.long (ct (4 * nd + 3)))])) rfl (hb hby dD_81) _ ?_
          show Steps p.tables e below (T22.setTop (mkF m 84 #[.val (.ref a1), .val (.int p2), .val (.int p3), .val (.long q4), .second, .val (.int at4), .val (.long (own_key p2 p3)), .second, .val (.long ((M (own_key p2 p3)).getD (0 : Int64))), .second, .val (.long (((M (own_key p2 p3)).getD (0 : Int64)) + q4)), .second, .unset, .unset] [(.long (4294967296 : Int64)), (.long (ct (4 * nd + 3)))])) _
          refine XS.goto X22.here hx rfl (pc0 := 84) (pc' := 88) rfl (hb hby dD_84) (by decide) (by decide) ?_
          show Steps p.tables e below (T22.setTop (mkF m 88 #[.val (.ref a1), .val (.int p2), .val (.int p3), .val (.long q4), .second, .val (.int at4), .val (.long (own_key p2 p3)), .second, .val (.long ((M (own_key p2 p3)).getD (0 : Int64))), .second, .val (.long (((M (own_key p2 p3)).getD (0 : Int64)) + q4)), .second, .unset, .unset] [(.long (4294967296 : Int64)), (.long (ct (4 * nd + 3)))])) _
          exact k_)
      exact ⟨(4294967296 : Int64), (if_pos (own_lceq c78_25)).symm, pre26⟩
    · have pre27 : ∀ t_, Steps p.tables e below (T22.setTop (mkF m 88 #[.val (.ref a1), .val (.int p2), .val (.int p3), .val (.long q4), .second, .val (.int at4), .val (.long (own_key p2 p3)), .second, .val (.long ((M (own_key p2 p3)).getD (0 : Int64))), .second, .val (.long (((M (own_key p2 p3)).getD (0 : Int64)) + q4)), .second, .unset, .unset] [(.long (0 : Int64)), (.long (ct (4 * nd + 3)))])) t_ → Steps p.tables e below (s₁.setTop (entryFrame m #[(.ref a1), (.int p2), (.int p3), (.long q4)] 14)) t_ := fun t_ k_ => pre23 t_ (by
          refine XS.ifYes X22.here hx rfl (pc0 := 78) (pc' := 87) rfl (hb hby dD_78) rfl ((if0 _ _).trans (feq c78_25).2) (by decide) (by decide) ?_
          show Steps p.tables e below (T22.setTop (mkF m 87 #[.val (.ref a1), .val (.int p2), .val (.int p3), .val (.long q4), .second, .val (.int at4), .val (.long (own_key p2 p3)), .second, .val (.long ((M (own_key p2 p3)).getD (0 : Int64))), .second, .val (.long (((M (own_key p2 p3)).getD (0 : Int64)) + q4)), .second, .unset, .unset] [(.long (ct (4 * nd + 3)))])) _
          refine XS.lconst X22.here hx rfl (hb hby dD_87) ?_
          show Steps p.tables e below (T22.setTop (mkF m 88 #[.val (.ref a1), .val (.int p2), .val (.int p3), .val (.long q4), .second, .val (.int at4), .val (.long (own_key p2 p3)), .second, .val (.long ((M (own_key p2 p3)).getD (0 : Int64))), .second, .val (.long (((M (own_key p2 p3)).getD (0 : Int64)) + q4)), .second, .unset, .unset] [(.long (0 : Int64)), (.long (ct (4 * nd + 3)))])) _
          exact k_)
      exact ⟨(0 : Int64), (if_neg (fun z => c78_25 (own_lc z))).symm, pre27⟩
  have pre28 : ∀ t_, Steps p.tables e below (T22.setTop (mkF m 91 #[.val (.ref a1), .val (.int p2), .val (.int p3), .val (.long q4), .second, .val (.int at4), .val (.long (own_key p2 p3)), .second, .val (.long ((M (own_key p2 p3)).getD (0 : Int64))), .second, .val (.long (((M (own_key p2 p3)).getD (0 : Int64)) + q4)), .second, .val (.long ((ct (4 * nd + 3)) + x24)), .second] [])) t_ → Steps p.tables e below (s₁.setTop (entryFrame m #[(.ref a1), (.int p2), (.int p3), (.long q4)] 14)) t_ := fun t_ k_ => pre24 t_ (by
      refine XS.ladd X22.here hx rfl (hb hby dD_88) rfl ?_
      show Steps p.tables e below (T22.setTop (mkF m 89 #[.val (.ref a1), .val (.int p2), .val (.int p3), .val (.long q4), .second, .val (.int at4), .val (.long (own_key p2 p3)), .second, .val (.long ((M (own_key p2 p3)).getD (0 : Int64))), .second, .val (.long (((M (own_key p2 p3)).getD (0 : Int64)) + q4)), .second, .unset, .unset] [(.long ((ct (4 * nd + 3)) + x24))])) _
      refine XS.lstore X22.here hx rfl (hb hby dD_89) rfl (l' := #[.val (.ref a1), .val (.int p2), .val (.int p3), .val (.long q4), .second, .val (.int at4), .val (.long (own_key p2 p3)), .second, .val (.long ((M (own_key p2 p3)).getD (0 : Int64))), .second, .val (.long (((M (own_key p2 p3)).getD (0 : Int64)) + q4)), .second, .val (.long ((ct (4 * nd + 3)) + x24)), .second]) rfl ?_
      show Steps p.tables e below (T22.setTop (mkF m 91 #[.val (.ref a1), .val (.int p2), .val (.int p3), .val (.long q4), .second, .val (.int at4), .val (.long (own_key p2 p3)), .second, .val (.long ((M (own_key p2 p3)).getD (0 : Int64))), .second, .val (.long (((M (own_key p2 p3)).getD (0 : Int64)) + q4)), .second, .val (.long ((ct (4 * nd + 3)) + x24)), .second] [])) _
      exact k_)
  obtain ⟨di, e_di⟩ : ∃ z : Int64, z = ((ct (4 * nd + 3)) + x24) := ⟨_, rfl⟩
  have pre29 : ∀ t_, Steps p.tables e below (T22.setTop (mkF m 91 #[.val (.ref a1), .val (.int p2), .val (.int p3), .val (.long q4), .second, .val (.int at4), .val (.long (own_key p2 p3)), .second, .val (.long ((M (own_key p2 p3)).getD (0 : Int64))), .second, .val (.long (((M (own_key p2 p3)).getD (0 : Int64)) + q4)), .second, .val (.long di), .second] [])) t_ → Steps p.tables e below (s₁.setTop (entryFrame m #[(.ref a1), (.int p2), (.int p3), (.long q4)] 14)) t_ := by subst e_di; exact pre28
  have hdi : di = own_dd ct nd ((M (own_key p2 p3)).getD (0 : Int64)) := by rw [e_di, hv24, own_dd]
  have pre30 : ∀ t_, Steps p.tables e below (T22.setTop (mkF m 95 #[.val (.ref a1), .val (.int p2), .val (.int p3), .val (.long q4), .second, .val (.int at4), .val (.long (own_key p2 p3)), .second, .val (.long ((M (own_key p2 p3)).getD (0 : Int64))), .second, .val (.long (((M (own_key p2 p3)).getD (0 : Int64)) + q4)), .second, .val (.long di), .second] [(.int p3), (.int (di.toInt32))])) t_ → Steps p.tables e below (s₁.setTop (entryFrame m #[(.ref a1), (.int p2), (.int p3), (.long q4)] 14)) t_ := fun t_ k_ => pre29 t_ (by
      refine XS.lload X22.here hx rfl (hb hby dD_91) rfl ?_
      show Steps p.tables e below (T22.setTop (mkF m 93 #[.val (.ref a1), .val (.int p2), .val (.int p3), .val (.long q4), .second, .val (.int at4), .val (.long (own_key p2 p3)), .second, .val (.long ((M (own_key p2 p3)).getD (0 : Int64))), .second, .val (.long (((M (own_key p2 p3)).getD (0 : Int64)) + q4)), .second, .val (.long di), .second] [(.long di)])) _
      refine XS.l2i X22.here hx rfl (hb hby dD_93) rfl ?_
      show Steps p.tables e below (T22.setTop (mkF m 94 #[.val (.ref a1), .val (.int p2), .val (.int p3), .val (.long q4), .second, .val (.int at4), .val (.long (own_key p2 p3)), .second, .val (.long ((M (own_key p2 p3)).getD (0 : Int64))), .second, .val (.long (((M (own_key p2 p3)).getD (0 : Int64)) + q4)), .second, .val (.long di), .second] [(.int (di.toInt32))])) _
      refine XS.iloadN X22.here hx rfl (hb hby dD_94) rfl ?_
      show Steps p.tables e below (T22.setTop (mkF m 95 #[.val (.ref a1), .val (.int p2), .val (.int p3), .val (.long q4), .second, .val (.int at4), .val (.long (own_key p2 p3)), .second, .val (.long ((M (own_key p2 p3)).getD (0 : Int64))), .second, .val (.long (((M (own_key p2 p3)).getD (0 : Int64)) + q4)), .second, .val (.long di), .second] [(.int p3), (.int (di.toInt32))])) _
      exact k_)
  by_cases c95_31 : (di.toInt32) = p3
  · obtain ⟨T32, X32, e32, st32⟩ := getF X22 hx hZ hown (host := "") (Or.inl (hw _ (List.mem_of_getElem? (i := 48) rfl))) Via.refl e22 f18 (g := (mkF m 99 #[.val (.ref a1), .val (.int p2), .val (.int p3), .val (.long q4), .second, .val (.int at4), .val (.long (own_key p2 p3)), .second, .val (.long ((M (own_key p2 p3)).getD (0 : Int64))), .second, .val (.long (((M (own_key p2 p3)).getD (0 : Int64)) + q4)), .second, .val (.long di), .second] [(.ref a1)])) rfl rfl (hb hby dD_99)
    obtain ⟨T33, h33, X33, e33, W33, A33, st33⟩ := oStJ X32 hx hZ e32 f20 (k := (4 * nd + 1)) (own_addc (c := 1) rfl hat (by omega) (by decide)) (by omega) (g := (mkF m 108 #[.val (.ref a1), .val (.int p2), .val (.int p3), .val (.long q4), .second, .val (.int at4), .val (.long (own_key p2 p3)), .second, .val (.long ((M (own_key p2 p3)).getD (0 : Int64))), .second, .val (.long (((M (own_key p2 p3)).getD (0 : Int64)) + q4)), .second, .val (.long di), .second] [(.long (((M (own_key p2 p3)).getD (0 : Int64)) + q4)), (.int (at4 + (1 : Int32))), (.ref nc)])) rfl rfl (hb hby dD_108)
    have f34 := f18.other W33 (Or.inl d_a1_nc)
    have f35 := f19.other W33 (Or.inl d_a1_nc)
    have f36 := f21.wr W33
    have f37 := LM17.other W33 (Ne.symm d_nc_pm) (Ne.symm d_nc_sl) (Ne.symm d_nc_us)
    have N33 := Fr.snoc X33 N17 g_nc
    have K33 := KK17.wr W33 (Or.inl (List.mem_of_getElem? (i := 0) rfl))
    have Z33 : n0 ≤ h33.size := Nat.le_trans Z17 (Keep.of_wr W33).1
    have Ac38 := A33.congr (own_ul (own_u ct (4 * nd + 0) (ct (4 * nd + 0) + q4)) (4 * nd + 1) (((M (own_key p2 p3)).getD (0 : Int64)) + q4))
    obtain ⟨T39, X39, e39, st39⟩ := getF X33 hx hZ hown (host := "") (Or.inl (hw _ (List.mem_of_getElem? (i := 48) rfl))) Via.refl e33 f34 (g := (mkF m 110 #[.val (.ref a1), .val (.int p2), .val (.int p3), .val (.long q4), .second, .val (.int at4), .val (.long (own_key p2 p3)), .second, .val (.long ((M (own_key p2 p3)).getD (0 : Int64))), .second, .val (.long (((M (own_key p2 p3)).getD (0 : Int64)) + q4)), .second, .val (.long di), .second] [(.ref a1)])) rfl rfl (hb hby dD_110)
    obtain ⟨T40, h40, X40, e40, W40, A40, st40⟩ := oStJ X39 hx hZ e39 Ac38 (k := (4 * nd + 3)) (own_addc (c := 3) rfl hat (by omega) (by decide)) (by omega) (g := (mkF m 119 #[.val (.ref a1), .val (.int p2), .val (.int p3), .val (.long q4), .second, .val (.int at4), .val (.long (own_key p2 p3)), .second, .val (.long ((M (own_key p2 p3)).getD (0 : Int64))), .second, .val (.long (((M (own_key p2 p3)).getD (0 : Int64)) + q4)), .second, .val (.long di), .second] [(.long di), (.int (at4 + (3 : Int32))), (.ref nc)])) rfl rfl (hb hby dD_119)
    have f41 := f34.other W40 (Or.inl d_a1_nc)
    have f42 := f35.other W40 (Or.inl d_a1_nc)
    have f43 := f36.wr W40
    have f44 := f37.other W40 (Ne.symm d_nc_pm) (Ne.symm d_nc_sl) (Ne.symm d_nc_us)
    have N40 := Fr.snoc X40 N33 g_nc
    have K40 := K33.wr W40 (Or.inl (List.mem_of_getElem? (i := 0) rfl))
    have Z40 : n0 ≤ h40.size := Nat.le_trans Z33 (Keep.of_wr W40).1
    have Ac45 := A40.congr (own_ul (own_u (own_u ct (4 * nd + 0) (ct (4 * nd + 0) + q4)) (4 * nd + 1) (((M (own_key p2 p3)).getD (0 : Int64)) + q4)) (4 * nd + 3) di)
    have pre46 : ∀ t_, Steps p.tables e below (T40.setTop (mkF m 223 #[.val (.ref a1), .val (.int p2), .val (.int p3), .val (.long q4), .second, .val (.int at4), .val (.long (own_key p2 p3)), .second, .val (.long ((M (own_key p2 p3)).getD (0 : Int64))), .second, .val (.long (((M (own_key p2 p3)).getD (0 : Int64)) + q4)), .second, .val (.long di), .second] [])) t_ → Steps p.tables e below (s₁.setTop (entryFrame m #[(.ref a1), (.int p2), (.int p3), (.long q4)] 14)) t_ := fun t_ k_ => pre30 t_ (by
        refine XS.icmpNo X22.here hx rfl (hb hby dD_95) rfl (teq c95_31).2 ?_
        show Steps p.tables e below (T22.setTop (mkF m 98 #[.val (.ref a1), .val (.int p2), .val (.int p3), .val (.long q4), .second, .val (.int at4), .val (.long (own_key p2 p3)), .second, .val (.long ((M (own_key p2 p3)).getD (0 : Int64))), .second, .val (.long (((M (own_key p2 p3)).getD (0 : Int64)) + q4)), .second, .val (.long di), .second] [])) _
        refine XS.aloadN X22.here hx rfl (hb hby dD_98) rfl rfl ?_
        show Steps p.tables e below (T22.setTop (mkF m 99 #[.val (.ref a1), .val (.int p2), .val (.int p3), .val (.long q4), .second, .val (.int at4), .val (.long (own_key p2 p3)), .second, .val (.long ((M (own_key p2 p3)).getD (0 : Int64))), .second, .val (.long (((M (own_key p2 p3)).getD (0 : Int64)) + q4)), .second, .val (.long di), .second] [(.ref a1)])) _
        refine st32 _ ?_
        show Steps p.tables e below (T32.setTop (mkF m 102 #[.val (.ref a1), .val (.int p2), .val (.int p3), .val (.long q4), .second, .val (.int at4), .val (.long (own_key p2 p3)), .second, .val (.long ((M (own_key p2 p3)).getD (0 : Int64))), .second, .val (.long (((M (own_key p2 p3)).getD (0 : Int64)) + q4)), .second, .val (.long di), .second] [(.ref nc)])) _
        refine XS.iload X32.here hx rfl (hb hby dD_102) rfl ?_
        show Steps p.tables e below (T32.setTop (mkF m 104 #[.val (.ref a1), .val (.int p2), .val (.int p3), .val (.long q4), .second, .val (.int at4), .val (.long (own_key p2 p3)), .second, .val (.long ((M (own_key p2 p3)).getD (0 : Int64))), .second, .val (.long (((M (own_key p2 p3)).getD (0 : Int64)) + q4)), .second, .val (.long di), .second] [(.int at4), (.ref nc)])) _
        refine XS.iconst X32.here hx rfl (hb hby dD_104) ?_
        show Steps p.tables e below (T32.setTop (mkF m 105 #[.val (.ref a1), .val (.int p2), .val (.int p3), .val (.long q4), .second, .val (.int at4), .val (.long (own_key p2 p3)), .second, .val (.long ((M (own_key p2 p3)).getD (0 : Int64))), .second, .val (.long (((M (own_key p2 p3)).getD (0 : Int64)) + q4)), .second, .val (.long di), .second] [(.int (1 : Int32)), (.int at4), (.ref nc)])) _
        refine XS.iadd X32.here hx rfl (hb hby dD_105) rfl ?_
        show Steps p.tables e below (T32.setTop (mkF m 106 #[.val (.ref a1), .val (.int p2), .val (.int p3), .val (.long q4), .second, .val (.int at4), .val (.long (own_key p2 p3)), .second, .val (.long ((M (own_key p2 p3)).getD (0 : Int64))), .second, .val (.long (((M (own_key p2 p3)).getD (0 : Int64)) + q4)), .second, .val (.long di), .second] [(.int (at4 + (1 : Int32))), (.ref nc)])) _
        refine XS.lload X32.here hx rfl (hb hby dD_106) rfl ?_
        show Steps p.tables e below (T32.setTop (mkF m 108 #[.val (.ref a1), .val (.int p2), .val (.int p3), .val (.long q4), .second, .val (.int at4), .val (.long (own_key p2 p3)), .second, .val (.long ((M (own_key p2 p3)).getD (0 : Int64))), .second, .val (.long (((M (own_key p2 p3)).getD (0 : Int64)) + q4)), .second, .val (.long di), .second] [(.long (((M (own_key p2 p3)).getD (0 : Int64)) + q4)), (.int (at4 + (1 : Int32))), (.ref nc)])) _
        refine st33 _ ?_
        show Steps p.tables e below (T33.setTop (mkF m 109 #[.val (.ref a1), .val (.int p2), .val (.int p3), .val (.long q4), .second, .val (.int at4), .val (.long (own_key p2 p3)), .second, .val (.long ((M (own_key p2 p3)).getD (0 : Int64))), .second, .val (.long (((M (own_key p2 p3)).getD (0 : Int64)) + q4)), .second, .val (.long di), .second] [])) _
        refine XS.aloadN X33.here hx rfl (hb hby dD_109) rfl rfl ?_
        show Steps p.tables e below (T33.setTop (mkF m 110 #[.val (.ref a1), .val (.int p2), .val (.int p3), .val (.long q4), .second, .val (.int at4), .val (.long (own_key p2 p3)), .second, .val (.long ((M (own_key p2 p3)).getD (0 : Int64))), .second, .val (.long (((M (own_key p2 p3)).getD (0 : Int64)) + q4)), .second, .val (.long di), .second] [(.ref a1)])) _
        refine st39 _ ?_
        show Steps p.tables e below (T39.setTop (mkF m 113 #[.val (.ref a1), .val (.int p2), .val (.int p3), .val (.long q4), .second, .val (.int at4), .val (.long (own_key p2 p3)), .second, .val (.long ((M (own_key p2 p3)).getD (0 : Int64))), .second, .val (.long (((M (own_key p2 p3)).getD (0 : Int64)) + q4)), .second, .val (.long di), .second] [(.ref nc)])) _
        refine XS.iload X39.here hx rfl (hb hby dD_113) rfl ?_
        show Steps p.tables e below (T39.setTop (mkF m 115 #[.val (.ref a1), .val (.int p2), .val (.int p3), .val (.long q4), .second, .val (.int at4), .val (.long (own_key p2 p3)), .second, .val (.long ((M (own_key p2 p3)).getD (0 : Int64))), .second, .val (.long (((M (own_key p2 p3)).getD (0 : Int64)) + q4)), .second, .val (.long di), .second] [(.int at4), (.ref nc)])) _
        refine XS.iconst X39.here hx rfl (hb hby dD_115) ?_
        show Steps p.tables e below (T39.setTop (mkF m 116 #[.val (.ref a1), .val (.int p2), .val (.int p3), .val (.long q4), .second, .val (.int at4), .val (.long (own_key p2 p3)), .second, .val (.long ((M (own_key p2 p3)).getD (0 : Int64))), .second, .val (.long (((M (own_key p2 p3)).getD (0 : Int64)) + q4)), .second, .val (.long di), .second] [(.int (3 : Int32)), (.int at4), (.ref nc)])) _
        refine XS.iadd X39.here hx rfl (hb hby dD_116) rfl ?_
        show Steps p.tables e below (T39.setTop (mkF m 117 #[.val (.ref a1), .val (.int p2), .val (.int p3), .val (.long q4), .second, .val (.int at4), .val (.long (own_key p2 p3)), .second, .val (.long ((M (own_key p2 p3)).getD (0 : Int64))), .second, .val (.long (((M (own_key p2 p3)).getD (0 : Int64)) + q4)), .second, .val (.long di), .second] [(.int (at4 + (3 : Int32))), (.ref nc)])) _
        refine XS.lload X39.here hx rfl (hb hby dD_117) rfl ?_
        show Steps p.tables e below (T39.setTop (mkF m 119 #[.val (.ref a1), .val (.int p2), .val (.int p3), .val (.long q4), .second, .val (.int at4), .val (.long (own_key p2 p3)), .second, .val (.long ((M (own_key p2 p3)).getD (0 : Int64))), .second, .val (.long (((M (own_key p2 p3)).getD (0 : Int64)) + q4)), .second, .val (.long di), .second] [(.long di), (.int (at4 + (3 : Int32))), (.ref nc)])) _
        refine st40 _ ?_
        show Steps p.tables e below (T40.setTop (mkF m 120 #[.val (.ref a1), .val (.int p2), .val (.int p3), .val (.long q4), .second, .val (.int at4), .val (.long (own_key p2 p3)), .second, .val (.long ((M (own_key p2 p3)).getD (0 : Int64))), .second, .val (.long (((M (own_key p2 p3)).getD (0 : Int64)) + q4)), .second, .val (.long di), .second] [])) _
        refine XS.goto X40.here hx rfl (pc0 := 120) (pc' := 223) rfl (hb hby dD_120) (by decide) (by decide) ?_
        show Steps p.tables e below (T40.setTop (mkF m 223 #[.val (.ref a1), .val (.int p2), .val (.int p3), .val (.long q4), .second, .val (.int at4), .val (.long (own_key p2 p3)), .second, .val (.long ((M (own_key p2 p3)).getD (0 : Int64))), .second, .val (.long (((M (own_key p2 p3)).getD (0 : Int64)) + q4)), .second, .val (.long di), .second] [])) _
        exact k_)
    obtain ⟨fs, hr, hrun, hended, hW, hsame⟩ := X40.leave (v := none) (fun _ => rfl)
    refine ⟨_, _, pre46 _ ?_, hrun, hended, _, _, rfl, ?_, ⟨_, rfl⟩, hW, hsame.mono (by decide) (by decide)⟩
    · exact X40.returnOut hx Bd.returns (hb hby dD_223) hr
    · show QD Z a1 p2 p3 q4 nd nc pm sl us ct M n h0 n0 _ T40.heap _
      rw [e40]
      exact ⟨rfl, N40, K40, f44, (own_u (own_u (own_u ct (4 * nd + 0) (ct (4 * nd + 0) + q4)) (4 * nd + 1) (((M (own_key p2 p3)).getD (0 : Int64)) + q4)) (4 * nd + 3) di), Ac45, fun i hi => by rw [own_u_ne (by omega), own_u_ne (by omega), own_u_ne (by omega)], (by rw [own_u_ne (by omega), own_u_ne (by omega), own_u_same]), Or.inl ⟨by rw [← hdi]; exact c95_31, (by rw [own_u_ne (by omega), own_u_same]), (by rw [own_u_ne (by omega), own_u_ne (by omega), own_u_ne (by omega)]), ((by rw [own_u_same]) : _ = di).trans hdi⟩⟩
  · obtain ⟨T47, X47, e47, st47⟩ := getF X22 hx hZ hown (host := "") (Or.inl (hw _ (List.mem_of_getElem? (i := 48) rfl))) Via.refl e22 f18 (g := (mkF m 126 #[.val (.ref a1), .val (.int p2), .val (.int p3), .val (.long q4), .second, .val (.int at4), .val (.long (own_key p2 p3)), .second, .val (.long ((M (own_key p2 p3)).getD (0 : Int64))), .second, .val (.long (((M (own_key p2 p3)).getD (0 : Int64)) + q4)), .second, .val (.long di), .second] [(.ref a1), (.long (((M (own_key p2 p3)).getD (0 : Int64)) + q4))])) rfl rfl (hb hby dD_126)
    have pre48 : ∀ t_, Steps p.tables e below (T47.setTop (mkF m 135 #[.val (.ref a1), .val (.int p2), .val (.int p3), .val (.long q4), .second, .val (.int at4), .val (.long (own_key p2 p3)), .second, .val (.long ((M (own_key p2 p3)).getD (0 : Int64))), .second, .val (.long (((M (own_key p2 p3)).getD (0 : Int64)) + q4)), .second, .val (.long di), .second] [(.int (lcmpW (((M (own_key p2 p3)).getD (0 : Int64)) + q4) (ct (4 * nd + 1))))])) t_ → Steps p.tables e below (s₁.setTop (entryFrame m #[(.ref a1), (.int p2), (.int p3), (.long q4)] 14)) t_ := fun t_ k_ => pre30 t_ (by
        refine XS.icmpYes X22.here hx rfl (pc0 := 95) (pc' := 123) rfl (hb hby dD_95) rfl (feq c95_31).2 (by decide) (by decide) ?_
        show Steps p.tables e below (T22.setTop (mkF m 123 #[.val (.ref a1), .val (.int p2), .val (.int p3), .val (.long q4), .second, .val (.int at4), .val (.long (own_key p2 p3)), .second, .val (.long ((M (own_key p2 p3)).getD (0 : Int64))), .second, .val (.long (((M (own_key p2 p3)).getD (0 : Int64)) + q4)), .second, .val (.long di), .second] [])) _
        refine XS.lload X22.here hx rfl (hb hby dD_123) rfl ?_
        show Steps p.tables e below (T22.setTop (mkF m 125 #[.val (.ref a1), .val (.int p2), .val (.int p3), .val (.long q4), .second, .val (.int at4), .val (.long (own_key p2 p3)), .second, .val (.long ((M (own_key p2 p3)).getD (0 : Int64))), .second, .val (.long (((M (own_key p2 p3)).getD (0 : Int64)) + q4)), .second, .val (.long di), .second] [(.long (((M (own_key p2 p3)).getD (0 : Int64)) + q4))])) _
        refine XS.aloadN X22.here hx rfl (hb hby dD_125) rfl rfl ?_
        show Steps p.tables e below (T22.setTop (mkF m 126 #[.val (.ref a1), .val (.int p2), .val (.int p3), .val (.long q4), .second, .val (.int at4), .val (.long (own_key p2 p3)), .second, .val (.long ((M (own_key p2 p3)).getD (0 : Int64))), .second, .val (.long (((M (own_key p2 p3)).getD (0 : Int64)) + q4)), .second, .val (.long di), .second] [(.ref a1), (.long (((M (own_key p2 p3)).getD (0 : Int64)) + q4))])) _
        refine st47 _ ?_
        show Steps p.tables e below (T47.setTop (mkF m 129 #[.val (.ref a1), .val (.int p2), .val (.int p3), .val (.long q4), .second, .val (.int at4), .val (.long (own_key p2 p3)), .second, .val (.long ((M (own_key p2 p3)).getD (0 : Int64))), .second, .val (.long (((M (own_key p2 p3)).getD (0 : Int64)) + q4)), .second, .val (.long di), .second] [(.ref nc), (.long (((M (own_key p2 p3)).getD (0 : Int64)) + q4))])) _
        refine XS.iload X47.here hx rfl (hb hby dD_129) rfl ?_
        show Steps p.tables e below (T47.setTop (mkF m 131 #[.val (.ref a1), .val (.int p2), .val (.int p3), .val (.long q4), .second, .val (.int at4), .val (.long (own_key p2 p3)), .second, .val (.long ((M (own_key p2 p3)).getD (0 : Int64))), .second, .val (.long (((M (own_key p2 p3)).getD (0 : Int64)) + q4)), .second, .val (.long di), .second] [(.int at4), (.ref nc), (.long (((M (own_key p2 p3)).getD (0 : Int64)) + q4))])) _
        refine XS.iconst X47.here hx rfl (hb hby dD_131) ?_
        show Steps p.tables e below (T47.setTop (mkF m 132 #[.val (.ref a1), .val (.int p2), .val (.int p3), .val (.long q4), .second, .val (.int at4), .val (.long (own_key p2 p3)), .second, .val (.long ((M (own_key p2 p3)).getD (0 : Int64))), .second, .val (.long (((M (own_key p2 p3)).getD (0 : Int64)) + q4)), .second, .val (.long di), .second] [(.int (1 : Int32)), (.int at4), (.ref nc), (.long (((M (own_key p2 p3)).getD (0 : Int64)) + q4))])) _
        refine XS.iadd X47.here hx rfl (hb hby dD_132) rfl ?_
        show Steps p.tables e below (T47.setTop (mkF m 133 #[.val (.ref a1), .val (.int p2), .val (.int p3), .val (.long q4), .second, .val (.int at4), .val (.long (own_key p2 p3)), .second, .val (.long ((M (own_key p2 p3)).getD (0 : Int64))), .second, .val (.long (((M (own_key p2 p3)).getD (0 : Int64)) + q4)), .second, .val (.long di), .second] [(.int (at4 + (1 : Int32))), (.ref nc), (.long (((M (own_key p2 p3)).getD (0 : Int64)) + q4))])) _
        refine oLdJ X47 hx hZ e47 f20 (k := (4 * nd + 1)) (own_addc (c := 1) rfl hat (by omega) (by decide)) (by omega) (v := (ct (4 * nd + 1))) (congrArg Value.long (by rw [own_u_ne (by omega)])) (g := (mkF m 133 #[.val (.ref a1), .val (.int p2), .val (.int p3), .val (.long q4), .second, .val (.int at4), .val (.long (own_key p2 p3)), .second, .val (.long ((M (own_key p2 p3)).getD (0 : Int64))), .second, .val (.long (((M (own_key p2 p3)).getD (0 : Int64)) + q4)), .second, .val (.long di), .second] [(.int (at4 + (1 : Int32))), (.ref nc), (.long (((M (own_key p2 p3)).getD (0 : Int64)) + q4))])) rfl rfl (hb hby dD_133) _ ?_
        show Steps p.tables e below (T47.setTop (mkF m 134 #[.val (.ref a1), .val (.int p2), .val (.int p3), .val (.long q4), .second, .val (.int at4), .val (.long (own_key p2 p3)), .second, .val (.long ((M (own_key p2 p3)).getD (0 : Int64))), .second, .val (.long (((M (own_key p2 p3)).getD (0 : Int64)) + q4)), .second, .val (.long di), .second] [(.long (ct (4 * nd + 1))), (.long (((M (own_key p2 p3)).getD (0 : Int64)) + q4))])) _
        refine XS.lcmp X47.here hx rfl (hb hby dD_134) rfl ?_
        show Steps p.tables e below (T47.setTop (mkF m 135 #[.val (.ref a1), .val (.int p2), .val (.int p3), .val (.long q4), .second, .val (.int at4), .val (.long (own_key p2 p3)), .second, .val (.long ((M (own_key p2 p3)).getD (0 : Int64))), .second, .val (.long (((M (own_key p2 p3)).getD (0 : Int64)) + q4)), .second, .val (.long di), .second] [(.int (lcmpW (((M (own_key p2 p3)).getD (0 : Int64)) + q4) (ct (4 * nd + 1))))])) _
        exact k_)
    by_cases c135_49 : (0 : Int32) < (lcmpW (((M (own_key p2 p3)).getD (0 : Int64)) + q4) (ct (4 * nd + 1)))
    · obtain ⟨T50, X50, e50, st50⟩ := getF X47 hx hZ hown (host := "") (Or.inl (hw _ (List.mem_of_getElem? (i := 48) rfl))) Via.refl e47 f18 (g := (mkF m 139 #[.val (.ref a1), .val (.int p2), .val (.int p3), .val (.long q4), .second, .val (.int at4), .val (.long (own_key p2 p3)), .second, .val (.long ((M (own_key p2 p3)).getD (0 : Int64))), .second, .val (.long (((M (own_key p2 p3)).getD (0 : Int64)) + q4)), .second, .val (.long di), .second] [(.ref a1)])) rfl rfl (hb hby dD_139)
      obtain ⟨T51, X51, e51, st51⟩ := getF X50 hx hZ hown (host := "") (Or.inl (hw _ (List.mem_of_getElem? (i := 48) rfl))) Via.refl e50 f18 (g := (mkF m 147 #[.val (.ref a1), .val (.int p2), .val (.int p3), .val (.long q4), .second, .val (.int at4), .val (.long (own_key p2 p3)), .second, .val (.long ((M (own_key p2 p3)).getD (0 : Int64))), .second, .val (.long (((M (own_key p2 p3)).getD (0 : Int64)) + q4)), .second, .val (.long di), .second] [(.ref a1), (.int (at4 + (2 : Int32))), (.ref nc)])) rfl rfl (hb hby dD_147)
      obtain ⟨T52, h52, X52, e52, W52, A52, st52⟩ := oStJ X51 hx hZ e51 f20 (k := (4 * nd + 2)) (own_addc (c := 2) rfl hat (by omega) (by decide)) (by omega) (g := (mkF m 155 #[.val (.ref a1), .val (.int p2), .val (.int p3), .val (.long q4), .second, .val (.int at4), .val (.long (own_key p2 p3)), .second, .val (.long ((M (own_key p2 p3)).getD (0 : Int64))), .second, .val (.long (((M (own_key p2 p3)).getD (0 : Int64)) + q4)), .second, .val (.long di), .second] [(.long (ct (4 * nd + 1))), (.int (at4 + (2 : Int32))), (.ref nc)])) rfl rfl (hb hby dD_155)
      have f53 := f18.other W52 (Or.inl d_a1_nc)
      have f54 := f19.other W52 (Or.inl d_a1_nc)
      have f55 := f21.wr W52
      have f56 := LM17.other W52 (Ne.symm d_nc_pm) (Ne.symm d_nc_sl) (Ne.symm d_nc_us)
      have N52 := Fr.snoc X52 N17 g_nc
      have K52 := KK17.wr W52 (Or.inl (List.mem_of_getElem? (i := 0) rfl))
      have Z52 : n0 ≤ h52.size := Nat.le_trans Z17 (Keep.of_wr W52).1
      have Ac57 := A52.congr (own_ul (own_u ct (4 * nd + 0) (ct (4 * nd + 0) + q4)) (4 * nd + 2) (ct (4 * nd + 1)))
      obtain ⟨T58, X58, e58, st58⟩ := getF X52 hx hZ hown (host := "") (Or.inl (hw _ (List.mem_of_getElem? (i := 48) rfl))) Via.refl e52 f53 (g := (mkF m 157 #[.val (.ref a1), .val (.int p2), .val (.int p3), .val (.long q4), .second, .val (.int at4), .val (.long (own_key p2 p3)), .second, .val (.long ((M (own_key p2 p3)).getD (0 : Int64))), .second, .val (.long (((M (own_key p2 p3)).getD (0 : Int64)) + q4)), .second, .val (.long di), .second] [(.ref a1)])) rfl rfl (hb hby dD_157)
      obtain ⟨T59, h59, X59, e59, W59, A59, st59⟩ := oStJ X58 hx hZ e58 Ac57 (k := (4 * nd + 1)) (own_addc (c := 1) rfl hat (by omega) (by decide)) (by omega) (g := (mkF m 166 #[.val (.ref a1), .val (.int p2), .val (.int p3), .val (.long q4), .second, .val (.int at4), .val (.long (own_key p2 p3)), .second, .val (.long ((M (own_key p2 p3)).getD (0 : Int64))), .second, .val (.long (((M (own_key p2 p3)).getD (0 : Int64)) + q4)), .second, .val (.long di), .second] [(.long (((M (own_key p2 p3)).getD (0 : Int64)) + q4)), (.int (at4 + (1 : Int32))), (.ref nc)])) rfl rfl (hb hby dD_166)
      have f60 := f53.other W59 (Or.inl d_a1_nc)
      have f61 := f54.other W59 (Or.inl d_a1_nc)
      have f62 := f55.wr W59
      have f63 := f56.other W59 (Ne.symm d_nc_pm) (Ne.symm d_nc_sl) (Ne.symm d_nc_us)
      have N59 := Fr.snoc X59 N52 g_nc
      have K59 := K52.wr W59 (Or.inl (List.mem_of_getElem? (i := 0) rfl))
      have Z59 : n0 ≤ h59.size := Nat.le_trans Z52 (Keep.of_wr W59).1
      have Ac64 := A59.congr (own_ul (own_u (own_u ct (4 * nd + 0) (ct (4 * nd + 0) + q4)) (4 * nd + 2) (ct (4 * nd + 1))) (4 * nd + 1) (((M (own_key p2 p3)).getD (0 : Int64)) + q4))
      obtain ⟨T65, X65, e65, st65⟩ := getF X59 hx hZ hown (host := "") (Or.inl (hw _ (List.mem_of_getElem? (i := 48) rfl))) Via.refl e59 f60 (g := (mkF m 168 #[.val (.ref a1), .val (.int p2), .val (.int p3), .val (.long q4), .second, .val (.int at4), .val (.long (own_key p2 p3)), .second, .val (.long ((M (own_key p2 p3)).getD (0 : Int64))), .second, .val (.long (((M (own_key p2 p3)).getD (0 : Int64)) + q4)), .second, .val (.long di), .second] [(.ref a1)])) rfl rfl (hb hby dD_168)
      obtain ⟨_, _, ⟨T66, L66, k66, n66⟩, -, X66, ⟨Lc66, hQ66, l66, y66, z66⟩, st66⟩ := Jvm.LawKit.callS X65 hx (y := (⟨"com/example/headwater/headwater/headdriven/EventCounts", "_key", "(II)J"⟩ : MethodName)) hown (mvT hZ (hw _ (List.mem_of_getElem? (i := 59) rfl))) (mvT hZ (hw _ (List.mem_of_getElem? (i := 60) rfl))) (mvT hZ (hw _ (List.mem_of_getElem? (i := 4) rfl))) (mvT hZ (hw _ (List.mem_of_getElem? (i := 61) rfl))) (by decide) (backOf (W := 2) (rmY l Z a0 hw [] ((((di.toUInt64 >>> ((32 : Int32) &&& 0x3f).toInt64.toUInt64).toInt64).toInt32)) p3  h59 n0 Z59) hZ (hw _ (List.mem_of_getElem? (i := 61) rfl)) (hw _ (List.mem_of_getElem? (i := 4) rfl)) (by decide) (by decide)) (g := (mkF m 182 #[.val (.ref a1), .val (.int p2), .val (.int p3), .val (.long q4), .second, .val (.int at4), .val (.long (own_key p2 p3)), .second, .val (.long ((M (own_key p2 p3)).getD (0 : Int64))), .second, .val (.long (((M (own_key p2 p3)).getD (0 : Int64)) + q4)), .second, .val (.long di), .second] [(.int p3), (.int (((di.toUInt64 >>> ((32 : Int32) &&& 0x3f).toInt64.toUInt64).toInt64).toInt32)), (.int (at4 + (3 : Int32))), (.ref nc)])) rfl (by rw [hml]; rfl) (argsL := [(.int (((di.toUInt64 >>> ((32 : Int32) &&& 0x3f).toInt64.toUInt64).toInt64).toInt32)), (.int p3)]) (rest := [(.int (at4 + (3 : Int32))), (.ref nc)]) (lenOf pdD_1 rfl) rfl (by show 2 * 0 + _ ≤ _; exact Nat.le_of_eq rfl) (hb hby dD_182) (fun _ _ => ⟨rfl, e65, (by decide : 0 + 0 ≤ _), (by decide : 0 + 0 ≤ _)⟩)
      dsimp only [Pt.U, Pt.locs, Pt.cells, Pt.slots] at X66 l66 y66 z66 st66 hQ66
      subst l66 y66 z66
      obtain ⟨rfl, N66q, e66⟩ := hQ66
      have N66 := Fr.app N59 N66q
      obtain ⟨T67, h67, X67, e67, W67, A67, st67⟩ := oStJ X66 hx hZ e66 Ac64 (k := (4 * nd + 3)) (own_addc (c := 3) rfl hat (by omega) (by decide)) (by omega) (g := (mkF m 185 #[.val (.ref a1), .val (.int p2), .val (.int p3), .val (.long q4), .second, .val (.int at4), .val (.long (own_key p2 p3)), .second, .val (.long ((M (own_key p2 p3)).getD (0 : Int64))), .second, .val (.long (((M (own_key p2 p3)).getD (0 : Int64)) + q4)), .second, .val (.long di), .second] [(.long (own_key (((di.toUInt64 >>> ((32 : Int32) &&& 0x3f).toInt64.toUInt64).toInt64).toInt32) p3)), (.int (at4 + (3 : Int32))), (.ref nc)])) rfl rfl (hb hby dD_185)
      have f68 := f60.other W67 (Or.inl d_a1_nc)
      have f69 := f61.other W67 (Or.inl d_a1_nc)
      have f70 := f62.wr W67
      have f71 := f63.other W67 (Ne.symm d_nc_pm) (Ne.symm d_nc_sl) (Ne.symm d_nc_us)
      have N67 := Fr.snoc X67 N66 g_nc
      have K67 := K59.wr W67 (Or.inl (List.mem_of_getElem? (i := 0) rfl))
      have Z67 : n0 ≤ h67.size := Nat.le_trans Z59 (Keep.of_wr W67).1
      have Ac72 := A67.congr (own_ul (own_u (own_u (own_u ct (4 * nd + 0) (ct (4 * nd + 0) + q4)) (4 * nd + 2) (ct (4 * nd + 1))) (4 * nd + 1) (((M (own_key p2 p3)).getD (0 : Int64)) + q4)) (4 * nd + 3) (own_key (((di.toUInt64 >>> ((32 : Int32) &&& 0x3f).toInt64.toUInt64).toInt64).toInt32) p3))
      have pre73 : ∀ t_, Steps p.tables e below (T67.setTop (mkF m 223 #[.val (.ref a1), .val (.int p2), .val (.int p3), .val (.long q4), .second, .val (.int at4), .val (.long (own_key p2 p3)), .second, .val (.long ((M (own_key p2 p3)).getD (0 : Int64))), .second, .val (.long (((M (own_key p2 p3)).getD (0 : Int64)) + q4)), .second, .val (.long di), .second] [])) t_ → Steps p.tables e below (s₁.setTop (entryFrame m #[(.ref a1), (.int p2), (.int p3), (.long q4)] 14)) t_ := fun t_ k_ => pre48 t_ (by
          refine XS.ifNo X47.here hx rfl (hb hby dD_135) rfl ((if0 _ _).trans (tlt c135_49).2.2.2) ?_
          show Steps p.tables e below (T47.setTop (mkF m 138 #[.val (.ref a1), .val (.int p2), .val (.int p3), .val (.long q4), .second, .val (.int at4), .val (.long (own_key p2 p3)), .second, .val (.long ((M (own_key p2 p3)).getD (0 : Int64))), .second, .val (.long (((M (own_key p2 p3)).getD (0 : Int64)) + q4)), .second, .val (.long di), .second] [])) _
          refine XS.aloadN X47.here hx rfl (hb hby dD_138) rfl rfl ?_
          show Steps p.tables e below (T47.setTop (mkF m 139 #[.val (.ref a1), .val (.int p2), .val (.int p3), .val (.long q4), .second, .val (.int at4), .val (.long (own_key p2 p3)), .second, .val (.long ((M (own_key p2 p3)).getD (0 : Int64))), .second, .val (.long (((M (own_key p2 p3)).getD (0 : Int64)) + q4)), .second, .val (.long di), .second] [(.ref a1)])) _
          refine st50 _ ?_
          show Steps p.tables e below (T50.setTop (mkF m 142 #[.val (.ref a1), .val (.int p2), .val (.int p3), .val (.long q4), .second, .val (.int at4), .val (.long (own_key p2 p3)), .second, .val (.long ((M (own_key p2 p3)).getD (0 : Int64))), .second, .val (.long (((M (own_key p2 p3)).getD (0 : Int64)) + q4)), .second, .val (.long di), .second] [(.ref nc)])) _
          refine XS.iload X50.here hx rfl (hb hby dD_142) rfl ?_
          show Steps p.tables e below (T50.setTop (mkF m 144 #[.val (.ref a1), .val (.int p2), .val (.int p3), .val (.long q4), .second, .val (.int at4), .val (.long (own_key p2 p3)), .second, .val (.long ((M (own_key p2 p3)).getD (0 : Int64))), .second, .val (.long (((M (own_key p2 p3)).getD (0 : Int64)) + q4)), .second, .val (.long di), .second] [(.int at4), (.ref nc)])) _
          refine XS.iconst X50.here hx rfl (hb hby dD_144) ?_
          show Steps p.tables e below (T50.setTop (mkF m 145 #[.val (.ref a1), .val (.int p2), .val (.int p3), .val (.long q4), .second, .val (.int at4), .val (.long (own_key p2 p3)), .second, .val (.long ((M (own_key p2 p3)).getD (0 : Int64))), .second, .val (.long (((M (own_key p2 p3)).getD (0 : Int64)) + q4)), .second, .val (.long di), .second] [(.int (2 : Int32)), (.int at4), (.ref nc)])) _
          refine XS.iadd X50.here hx rfl (hb hby dD_145) rfl ?_
          show Steps p.tables e below (T50.setTop (mkF m 146 #[.val (.ref a1), .val (.int p2), .val (.int p3), .val (.long q4), .second, .val (.int at4), .val (.long (own_key p2 p3)), .second, .val (.long ((M (own_key p2 p3)).getD (0 : Int64))), .second, .val (.long (((M (own_key p2 p3)).getD (0 : Int64)) + q4)), .second, .val (.long di), .second] [(.int (at4 + (2 : Int32))), (.ref nc)])) _
          refine XS.aloadN X50.here hx rfl (hb hby dD_146) rfl rfl ?_
          show Steps p.tables e below (T50.setTop (mkF m 147 #[.val (.ref a1), .val (.int p2), .val (.int p3), .val (.long q4), .second, .val (.int at4), .val (.long (own_key p2 p3)), .second, .val (.long ((M (own_key p2 p3)).getD (0 : Int64))), .second, .val (.long (((M (own_key p2 p3)).getD (0 : Int64)) + q4)), .second, .val (.long di), .second] [(.ref a1), (.int (at4 + (2 : Int32))), (.ref nc)])) _
          refine st51 _ ?_
          show Steps p.tables e below (T51.setTop (mkF m 150 #[.val (.ref a1), .val (.int p2), .val (.int p3), .val (.long q4), .second, .val (.int at4), .val (.long (own_key p2 p3)), .second, .val (.long ((M (own_key p2 p3)).getD (0 : Int64))), .second, .val (.long (((M (own_key p2 p3)).getD (0 : Int64)) + q4)), .second, .val (.long di), .second] [(.ref nc), (.int (at4 + (2 : Int32))), (.ref nc)])) _
          refine XS.iload X51.here hx rfl (hb hby dD_150) rfl ?_
          show Steps p.tables e below (T51.setTop (mkF m 152 #[.val (.ref a1), .val (.int p2), .val (.int p3), .val (.long q4), .second, .val (.int at4), .val (.long (own_key p2 p3)), .second, .val (.long ((M (own_key p2 p3)).getD (0 : Int64))), .second, .val (.long (((M (own_key p2 p3)).getD (0 : Int64)) + q4)), .second, .val (.long di), .second] [(.int at4), (.ref nc), (.int (at4 + (2 : Int32))), (.ref nc)])) _
          refine XS.iconst X51.here hx rfl (hb hby dD_152) ?_
          show Steps p.tables e below (T51.setTop (mkF m 153 #[.val (.ref a1), .val (.int p2), .val (.int p3), .val (.long q4), .second, .val (.int at4), .val (.long (own_key p2 p3)), .second, .val (.long ((M (own_key p2 p3)).getD (0 : Int64))), .second, .val (.long (((M (own_key p2 p3)).getD (0 : Int64)) + q4)), .second, .val (.long di), .second] [(.int (1 : Int32)), (.int at4), (.ref nc), (.int (at4 + (2 : Int32))), (.ref nc)])) _
          refine XS.iadd X51.here hx rfl (hb hby dD_153) rfl ?_
          show Steps p.tables e below (T51.setTop (mkF m 154 #[.val (.ref a1), .val (.int p2), .val (.int p3), .val (.long q4), .second, .val (.int at4), .val (.long (own_key p2 p3)), .second, .val (.long ((M (own_key p2 p3)).getD (0 : Int64))), .second, .val (.long (((M (own_key p2 p3)).getD (0 : Int64)) + q4)), .second, .val (.long di), .second] [(.int (at4 + (1 : Int32))), (.ref nc), (.int (at4 + (2 : Int32))), (.ref nc)])) _
          refine oLdJ X51 hx hZ e51 f20 (k := (4 * nd + 1)) (own_addc (c := 1) rfl hat (by omega) (by decide)) (by omega) (v := (ct (4 * nd + 1))) (congrArg Value.long (by rw [own_u_ne (by omega)])) (g := (mkF m 154 #[.val (.ref a1), .val (.int p2), .val (.int p3), .val (.long q4), .second, .val (.int at4), .val (.long (own_key p2 p3)), .second, .val (.long ((M (own_key p2 p3)).getD (0 : Int64))), .second, .val (.long (((M (own_key p2 p3)).getD (0 : Int64)) + q4)), .second, .val (.long di), .second] [(.int (at4 + (1 : Int32))), (.ref nc), (.int (at4 + (2 : Int32))), (.ref nc)])) rfl rfl (hb hby dD_154) _ ?_
          show Steps p.tables e below (T51.setTop (mkF m 155 #[.val (.ref a1), .val (.int p2), .val (.int p3), .val (.long q4), .second, .val (.int at4), .val (.long (own_key p2 p3)), .second, .val (.long ((M (own_key p2 p3)).getD (0 : Int64))), .second, .val (.long (((M (own_key p2 p3)).getD (0 : Int64)) + q4)), .second, .val (.long di), .second] [(.long (ct (4 * nd + 1))), (.int (at4 + (2 : Int32))), (.ref nc)])) _
          refine st52 _ ?_
          show Steps p.tables e below (T52.setTop (mkF m 156 #[.val (.ref a1), .val (.int p2), .val (.int p3), .val (.long q4), .second, .val (.int at4), .val (.long (own_key p2 p3)), .second, .val (.long ((M (own_key p2 p3)).getD (0 : Int64))), .second, .val (.long (((M (own_key p2 p3)).getD (0 : Int64)) + q4)), .second, .val (.long di), .second] [])) _
          refine XS.aloadN X52.here hx rfl (hb hby dD_156) rfl rfl ?_
          show Steps p.tables e below (T52.setTop (mkF m 157 #[.val (.ref a1), .val (.int p2), .val (.int p3), .val (.long q4), .second, .val (.int at4), .val (.long (own_key p2 p3)), .second, .val (.long ((M (own_key p2 p3)).getD (0 : Int64))), .second, .val (.long (((M (own_key p2 p3)).getD (0 : Int64)) + q4)), .second, .val (.long di), .second] [(.ref a1)])) _
          refine st58 _ ?_
          show Steps p.tables e below (T58.setTop (mkF m 160 #[.val (.ref a1), .val (.int p2), .val (.int p3), .val (.long q4), .second, .val (.int at4), .val (.long (own_key p2 p3)), .second, .val (.long ((M (own_key p2 p3)).getD (0 : Int64))), .second, .val (.long (((M (own_key p2 p3)).getD (0 : Int64)) + q4)), .second, .val (.long di), .second] [(.ref nc)])) _
          refine XS.iload X58.here hx rfl (hb hby dD_160) rfl ?_
          show Steps p.tables e below (T58.setTop (mkF m 162 #[.val (.ref a1), .val (.int p2), .val (.int p3), .val (.long q4), .second, .val (.int at4), .val (.long (own_key p2 p3)), .second, .val (.long ((M (own_key p2 p3)).getD (0 : Int64))), .second, .val (.long (((M (own_key p2 p3)).getD (0 : Int64)) + q4)), .second, .val (.long di), .second] [(.int at4), (.ref nc)])) _
          refine XS.iconst X58.here hx rfl (hb hby dD_162) ?_
          show Steps p.tables e below (T58.setTop (mkF m 163 #[.val (.ref a1), .val (.int p2), .val (.int p3), .val (.long q4), .second, .val (.int at4), .val (.long (own_key p2 p3)), .second, .val (.long ((M (own_key p2 p3)).getD (0 : Int64))), .second, .val (.long (((M (own_key p2 p3)).getD (0 : Int64)) + q4)), .second, .val (.long di), .second] [(.int (1 : Int32)), (.int at4), (.ref nc)])) _
          refine XS.iadd X58.here hx rfl (hb hby dD_163) rfl ?_
          show Steps p.tables e below (T58.setTop (mkF m 164 #[.val (.ref a1), .val (.int p2), .val (.int p3), .val (.long q4), .second, .val (.int at4), .val (.long (own_key p2 p3)), .second, .val (.long ((M (own_key p2 p3)).getD (0 : Int64))), .second, .val (.long (((M (own_key p2 p3)).getD (0 : Int64)) + q4)), .second, .val (.long di), .second] [(.int (at4 + (1 : Int32))), (.ref nc)])) _
          refine XS.lload X58.here hx rfl (hb hby dD_164) rfl ?_
          show Steps p.tables e below (T58.setTop (mkF m 166 #[.val (.ref a1), .val (.int p2), .val (.int p3), .val (.long q4), .second, .val (.int at4), .val (.long (own_key p2 p3)), .second, .val (.long ((M (own_key p2 p3)).getD (0 : Int64))), .second, .val (.long (((M (own_key p2 p3)).getD (0 : Int64)) + q4)), .second, .val (.long di), .second] [(.long (((M (own_key p2 p3)).getD (0 : Int64)) + q4)), (.int (at4 + (1 : Int32))), (.ref nc)])) _
          refine st59 _ ?_
          show Steps p.tables e below (T59.setTop (mkF m 167 #[.val (.ref a1), .val (.int p2), .val (.int p3), .val (.long q4), .second, .val (.int at4), .val (.long (own_key p2 p3)), .second, .val (.long ((M (own_key p2 p3)).getD (0 : Int64))), .second, .val (.long (((M (own_key p2 p3)).getD (0 : Int64)) + q4)), .second, .val (.long di), .second] [])) _
          refine XS.aloadN X59.here hx rfl (hb hby dD_167) rfl rfl ?_
          show Steps p.tables e below (T59.setTop (mkF m 168 #[.val (.ref a1), .val (.int p2), .val (.int p3), .val (.long q4), .second, .val (.int at4), .val (.long (own_key p2 p3)), .second, .val (.long ((M (own_key p2 p3)).getD (0 : Int64))), .second, .val (.long (((M (own_key p2 p3)).getD (0 : Int64)) + q4)), .second, .val (.long di), .second] [(.ref a1)])) _
          refine st65 _ ?_
          show Steps p.tables e below (T65.setTop (mkF m 171 #[.val (.ref a1), .val (.int p2), .val (.int p3), .val (.long q4), .second, .val (.int at4), .val (.long (own_key p2 p3)), .second, .val (.long ((M (own_key p2 p3)).getD (0 : Int64))), .second, .val (.long (((M (own_key p2 p3)).getD (0 : Int64)) + q4)), .second, .val (.long di), .second] [(.ref nc)])) _
          refine XS.iload X65.here hx rfl (hb hby dD_171) rfl ?_
          show Steps p.tables e below (T65.setTop (mkF m 173 #[.val (.ref a1), .val (.int p2), .val (.int p3), .val (.long q4), .second, .val (.int at4), .val (.long (own_key p2 p3)), .second, .val (.long ((M (own_key p2 p3)).getD (0 : Int64))), .second, .val (.long (((M (own_key p2 p3)).getD (0 : Int64)) + q4)), .second, .val (.long di), .second] [(.int at4), (.ref nc)])) _
          refine XS.iconst X65.here hx rfl (hb hby dD_173) ?_
          show Steps p.tables e below (T65.setTop (mkF m 174 #[.val (.ref a1), .val (.int p2), .val (.int p3), .val (.long q4), .second, .val (.int at4), .val (.long (own_key p2 p3)), .second, .val (.long ((M (own_key p2 p3)).getD (0 : Int64))), .second, .val (.long (((M (own_key p2 p3)).getD (0 : Int64)) + q4)), .second, .val (.long di), .second] [(.int (3 : Int32)), (.int at4), (.ref nc)])) _
          refine XS.iadd X65.here hx rfl (hb hby dD_174) rfl ?_
          show Steps p.tables e below (T65.setTop (mkF m 175 #[.val (.ref a1), .val (.int p2), .val (.int p3), .val (.long q4), .second, .val (.int at4), .val (.long (own_key p2 p3)), .second, .val (.long ((M (own_key p2 p3)).getD (0 : Int64))), .second, .val (.long (((M (own_key p2 p3)).getD (0 : Int64)) + q4)), .second, .val (.long di), .second] [(.int (at4 + (3 : Int32))), (.ref nc)])) _
          refine XS.lload X65.here hx rfl (hb hby dD_175) rfl ?_
          show Steps p.tables e below (T65.setTop (mkF m 177 #[.val (.ref a1), .val (.int p2), .val (.int p3), .val (.long q4), .second, .val (.int at4), .val (.long (own_key p2 p3)), .second, .val (.long ((M (own_key p2 p3)).getD (0 : Int64))), .second, .val (.long (((M (own_key p2 p3)).getD (0 : Int64)) + q4)), .second, .val (.long di), .second] [(.long di), (.int (at4 + (3 : Int32))), (.ref nc)])) _
          refine XS.bipush X65.here hx rfl (hb hby dD_177) ?_
          show Steps p.tables e below (T65.setTop (mkF m 179 #[.val (.ref a1), .val (.int p2), .val (.int p3), .val (.long q4), .second, .val (.int at4), .val (.long (own_key p2 p3)), .second, .val (.long ((M (own_key p2 p3)).getD (0 : Int64))), .second, .val (.long (((M (own_key p2 p3)).getD (0 : Int64)) + q4)), .second, .val (.long di), .second] [(.int (32 : Int32)), (.long di), (.int (at4 + (3 : Int32))), (.ref nc)])) _
          refine XS.lushr X65.here hx rfl (hb hby dD_179) rfl ?_
          show Steps p.tables e below (T65.setTop (mkF m 180 #[.val (.ref a1), .val (.int p2), .val (.int p3), .val (.long q4), .second, .val (.int at4), .val (.long (own_key p2 p3)), .second, .val (.long ((M (own_key p2 p3)).getD (0 : Int64))), .second, .val (.long (((M (own_key p2 p3)).getD (0 : Int64)) + q4)), .second, .val (.long di), .second] [(.long ((di.toUInt64 >>> ((32 : Int32) &&& 0x3f).toInt64.toUInt64).toInt64)), (.int (at4 + (3 : Int32))), (.ref nc)])) _
          refine XS.l2i X65.here hx rfl (hb hby dD_180) rfl ?_
          show Steps p.tables e below (T65.setTop (mkF m 181 #[.val (.ref a1), .val (.int p2), .val (.int p3), .val (.long q4), .second, .val (.int at4), .val (.long (own_key p2 p3)), .second, .val (.long ((M (own_key p2 p3)).getD (0 : Int64))), .second, .val (.long (((M (own_key p2 p3)).getD (0 : Int64)) + q4)), .second, .val (.long di), .second] [(.int (((di.toUInt64 >>> ((32 : Int32) &&& 0x3f).toInt64.toUInt64).toInt64).toInt32)), (.int (at4 + (3 : Int32))), (.ref nc)])) _
          refine XS.iloadN X65.here hx rfl (hb hby dD_181) rfl ?_
          show Steps p.tables e below (T65.setTop (mkF m 182 #[.val (.ref a1), .val (.int p2), .val (.int p3), .val (.long q4), .second, .val (.int at4), .val (.long (own_key p2 p3)), .second, .val (.long ((M (own_key p2 p3)).getD (0 : Int64))), .second, .val (.long (((M (own_key p2 p3)).getD (0 : Int64)) + q4)), .second, .val (.long di), .second] [(.int p3), (.int (((di.toUInt64 >>> ((32 : Int32) &&& 0x3f).toInt64.toUInt64).toInt64).toInt32)), (.int (at4 + (3 : Int32))), (.ref nc)])) _
          refine st66 _ ?_
          show Steps p.tables e below (T66.setTop (mkF m 185 #[.val (.ref a1), .val (.int p2), .val (.int p3), .val (.long q4), .second, .val (.int at4), .val (.long (own_key p2 p3)), .second, .val (.long ((M (own_key p2 p3)).getD (0 : Int64))), .second, .val (.long (((M (own_key p2 p3)).getD (0 : Int64)) + q4)), .second, .val (.long di), .second] [(.long (own_key (((di.toUInt64 >>> ((32 : Int32) &&& 0x3f).toInt64.toUInt64).toInt64).toInt32) p3)), (.int (at4 + (3 : Int32))), (.ref nc)])) _
          refine st67 _ ?_
          show Steps p.tables e below (T67.setTop (mkF m 186 #[.val (.ref a1), .val (.int p2), .val (.int p3), .val (.long q4), .second, .val (.int at4), .val (.long (own_key p2 p3)), .second, .val (.long ((M (own_key p2 p3)).getD (0 : Int64))), .second, .val (.long (((M (own_key p2 p3)).getD (0 : Int64)) + q4)), .second, .val (.long di), .second] [])) _
          refine XS.goto X67.here hx rfl (pc0 := 186) (pc' := 223) rfl (hb hby dD_186) (by decide) (by decide) ?_
          show Steps p.tables e below (T67.setTop (mkF m 223 #[.val (.ref a1), .val (.int p2), .val (.int p3), .val (.long q4), .second, .val (.int at4), .val (.long (own_key p2 p3)), .second, .val (.long ((M (own_key p2 p3)).getD (0 : Int64))), .second, .val (.long (((M (own_key p2 p3)).getD (0 : Int64)) + q4)), .second, .val (.long di), .second] [])) _
          exact k_)
      obtain ⟨fs, hr, hrun, hended, hW, hsame⟩ := X67.leave (v := none) (fun _ => rfl)
      refine ⟨_, _, pre73 _ ?_, hrun, hended, _, _, rfl, ?_, ⟨_, rfl⟩, hW, hsame.mono (by decide) (by decide)⟩
      · exact X67.returnOut hx Bd.returns (hb hby dD_223) hr
      · show QD Z a1 p2 p3 q4 nd nc pm sl us ct M n h0 n0 _ T67.heap _
        rw [e67]
        exact ⟨rfl, N67, K67, f71, (own_u (own_u (own_u (own_u ct (4 * nd + 0) (ct (4 * nd + 0) + q4)) (4 * nd + 2) (ct (4 * nd + 1))) (4 * nd + 1) (((M (own_key p2 p3)).getD (0 : Int64)) + q4)) (4 * nd + 3) (own_key (((di.toUInt64 >>> ((32 : Int32) &&& 0x3f).toInt64.toUInt64).toInt64).toInt32) p3)), Ac72, fun i hi => by rw [own_u_ne (by omega), own_u_ne (by omega), own_u_ne (by omega), own_u_ne (by omega)], (by rw [own_u_ne (by omega), own_u_ne (by omega), own_u_ne (by omega), own_u_same]), Or.inr (Or.inl ⟨by rw [← hdi]; exact c95_31, own_lcgt.mp c135_49, (by rw [own_u_ne (by omega), own_u_same]), (by rw [own_u_ne (by omega), own_u_ne (by omega), own_u_same]), by rw [own_u_same]; exact own_keyLo _ _⟩)⟩
    · obtain ⟨T74, X74, e74, st74⟩ := getF X47 hx hZ hown (host := "") (Or.inl (hw _ (List.mem_of_getElem? (i := 48) rfl))) Via.refl e47 f18 (g := (mkF m 190 #[.val (.ref a1), .val (.int p2), .val (.int p3), .val (.long q4), .second, .val (.int at4), .val (.long (own_key p2 p3)), .second, .val (.long ((M (own_key p2 p3)).getD (0 : Int64))), .second, .val (.long (((M (own_key p2 p3)).getD (0 : Int64)) + q4)), .second, .val (.long di), .second] [(.ref a1)])) rfl rfl (hb hby dD_190)
      obtain ⟨T75, X75, e75, st75⟩ := getF X74 hx hZ hown (host := "") (Or.inl (hw _ (List.mem_of_getElem? (i := 48) rfl))) Via.refl e74 f18 (g := (mkF m 198 #[.val (.ref a1), .val (.int p2), .val (.int p3), .val (.long q4), .second, .val (.int at4), .val (.long (own_key p2 p3)), .second, .val (.long ((M (own_key p2 p3)).getD (0 : Int64))), .second, .val (.long (((M (own_key p2 p3)).getD (0 : Int64)) + q4)), .second, .val (.long di), .second] [(.ref a1), (.int (at4 + (2 : Int32))), (.ref nc)])) rfl rfl (hb hby dD_198)
      obtain ⟨_, _, ⟨T76, L76, k76, n76⟩, -, X76, ⟨Lc76, hQ76, l76, y76, z76⟩, st76⟩ := Jvm.LawKit.callS X75 hx (y := (⟨"java/lang/Math", "max", "(JJ)J"⟩ : MethodName)) hown (mvT hZ (hw _ (List.mem_of_getElem? (i := 105) rfl))) (mvT hZ (hw _ (List.mem_of_getElem? (i := 106) rfl))) (mvT hZ (hw _ (List.mem_of_getElem? (i := 100) rfl))) (mvT hZ (hw _ (List.mem_of_getElem? (i := 107) rfl))) (by decide) (backOf (W := 2) (rmMX l Z a0 hw [] ((ct (4 * nd + 2))) ((((M (own_key p2 p3)).getD (0 : Int64)) + q4))  T17.heap n0 Z17) hZ (hw _ (List.mem_of_getElem? (i := 107) rfl)) (hw _ (List.mem_of_getElem? (i := 100) rfl)) (by decide) (by decide)) (g := (mkF m 208 #[.val (.ref a1), .val (.int p2), .val (.int p3), .val (.long q4), .second, .val (.int at4), .val (.long (own_key p2 p3)), .second, .val (.long ((M (own_key p2 p3)).getD (0 : Int64))), .second, .val (.long (((M (own_key p2 p3)).getD (0 : Int64)) + q4)), .second, .val (.long di), .second] [(.long (((M (own_key p2 p3)).getD (0 : Int64)) + q4)), (.long (ct (4 * nd + 2))), (.int (at4 + (2 : Int32))), (.ref nc)])) rfl (by rw [hml]; rfl) (argsL := [(.long (ct (4 * nd + 2))), (.long (((M (own_key p2 p3)).getD (0 : Int64)) + q4))]) (rest := [(.int (at4 + (2 : Int32))), (.ref nc)]) (lenOf pdD_0 rfl) rfl (by show 2 * 0 + _ ≤ _; exact Nat.le_of_eq rfl) (hb hby dD_208) (fun _ _ => ⟨rfl, e75, (by decide : 0 + 0 ≤ _), (by decide : 0 + 0 ≤ _)⟩)
      dsimp only [Pt.U, Pt.locs, Pt.cells, Pt.slots] at X76 l76 y76 z76 st76 hQ76
      subst l76 y76 z76
      obtain ⟨rfl, N76q, e76⟩ := hQ76
      have N76 := Fr.app N17 N76q
      obtain ⟨T77, h77, X77, e77, W77, A77, st77⟩ := oStJ X76 hx hZ e76 f20 (k := (4 * nd + 2)) (own_addc (c := 2) rfl hat (by omega) (by decide)) (by omega) (g := (mkF m 211 #[.val (.ref a1), .val (.int p2), .val (.int p3), .val (.long q4), .second, .val (.int at4), .val (.long (own_key p2 p3)), .second, .val (.long ((M (own_key p2 p3)).getD (0 : Int64))), .second, .val (.long (((M (own_key p2 p3)).getD (0 : Int64)) + q4)), .second, .val (.long di), .second] [(.long (own_max (ct (4 * nd + 2)) (((M (own_key p2 p3)).getD (0 : Int64)) + q4))), (.int (at4 + (2 : Int32))), (.ref nc)])) rfl rfl (hb hby dD_211)
      have f78 := f18.other W77 (Or.inl d_a1_nc)
      have f79 := f19.other W77 (Or.inl d_a1_nc)
      have f80 := f21.wr W77
      have f81 := LM17.other W77 (Ne.symm d_nc_pm) (Ne.symm d_nc_sl) (Ne.symm d_nc_us)
      have N77 := Fr.snoc X77 N76 g_nc
      have K77 := KK17.wr W77 (Or.inl (List.mem_of_getElem? (i := 0) rfl))
      have Z77 : n0 ≤ h77.size := Nat.le_trans Z17 (Keep.of_wr W77).1
      have Ac82 := A77.congr (own_ul (own_u ct (4 * nd + 0) (ct (4 * nd + 0) + q4)) (4 * nd + 2) (own_max (ct (4 * nd + 2)) (((M (own_key p2 p3)).getD (0 : Int64)) + q4)))
      obtain ⟨T83, X83, e83, st83⟩ := getF X77 hx hZ hown (host := "") (Or.inl (hw _ (List.mem_of_getElem? (i := 48) rfl))) Via.refl e77 f78 (g := (mkF m 213 #[.val (.ref a1), .val (.int p2), .val (.int p3), .val (.long q4), .second, .val (.int at4), .val (.long (own_key p2 p3)), .second, .val (.long ((M (own_key p2 p3)).getD (0 : Int64))), .second, .val (.long (((M (own_key p2 p3)).getD (0 : Int64)) + q4)), .second, .val (.long di), .second] [(.ref a1)])) rfl rfl (hb hby dD_213)
      obtain ⟨T84, h84, X84, e84, W84, A84, st84⟩ := oStJ X83 hx hZ e83 Ac82 (k := (4 * nd + 3)) (own_addc (c := 3) rfl hat (by omega) (by decide)) (by omega) (g := (mkF m 222 #[.val (.ref a1), .val (.int p2), .val (.int p3), .val (.long q4), .second, .val (.int at4), .val (.long (own_key p2 p3)), .second, .val (.long ((M (own_key p2 p3)).getD (0 : Int64))), .second, .val (.long (((M (own_key p2 p3)).getD (0 : Int64)) + q4)), .second, .val (.long di), .second] [(.long di), (.int (at4 + (3 : Int32))), (.ref nc)])) rfl rfl (hb hby dD_222)
      have f85 := f78.other W84 (Or.inl d_a1_nc)
      have f86 := f79.other W84 (Or.inl d_a1_nc)
      have f87 := f80.wr W84
      have f88 := f81.other W84 (Ne.symm d_nc_pm) (Ne.symm d_nc_sl) (Ne.symm d_nc_us)
      have N84 := Fr.snoc X84 N77 g_nc
      have K84 := K77.wr W84 (Or.inl (List.mem_of_getElem? (i := 0) rfl))
      have Z84 : n0 ≤ h84.size := Nat.le_trans Z77 (Keep.of_wr W84).1
      have Ac89 := A84.congr (own_ul (own_u (own_u ct (4 * nd + 0) (ct (4 * nd + 0) + q4)) (4 * nd + 2) (own_max (ct (4 * nd + 2)) (((M (own_key p2 p3)).getD (0 : Int64)) + q4))) (4 * nd + 3) di)
      have pre90 : ∀ t_, Steps p.tables e below (T84.setTop (mkF m 223 #[.val (.ref a1), .val (.int p2), .val (.int p3), .val (.long q4), .second, .val (.int at4), .val (.long (own_key p2 p3)), .second, .val (.long ((M (own_key p2 p3)).getD (0 : Int64))), .second, .val (.long (((M (own_key p2 p3)).getD (0 : Int64)) + q4)), .second, .val (.long di), .second] [])) t_ → Steps p.tables e below (s₁.setTop (entryFrame m #[(.ref a1), (.int p2), (.int p3), (.long q4)] 14)) t_ := fun t_ k_ => pre48 t_ (by
          refine XS.ifYes X47.here hx rfl (pc0 := 135) (pc' := 189) rfl (hb hby dD_135) rfl ((if0 _ _).trans (flt c135_49).2.2.2) (by decide) (by decide) ?_
          show Steps p.tables e below (T47.setTop (mkF m 189 #[.val (.ref a1), .val (.int p2), .val (.int p3), .val (.long q4), .second, .val (.int at4), .val (.long (own_key p2 p3)), .second, .val (.long ((M (own_key p2 p3)).getD (0 : Int64))), .second, .val (.long (((M (own_key p2 p3)).getD (0 : Int64)) + q4)), .second, .val (.long di), .second] [])) _
          refine XS.aloadN X47.here hx rfl (hb hby dD_189) rfl rfl ?_
          show Steps p.tables e below (T47.setTop (mkF m 190 #[.val (.ref a1), .val (.int p2), .val (.int p3), .val (.long q4), .second, .val (.int at4), .val (.long (own_key p2 p3)), .second, .val (.long ((M (own_key p2 p3)).getD (0 : Int64))), .second, .val (.long (((M (own_key p2 p3)).getD (0 : Int64)) + q4)), .second, .val (.long di), .second] [(.ref a1)])) _
          refine st74 _ ?_
          show Steps p.tables e below (T74.setTop (mkF m 193 #[.val (.ref a1), .val (.int p2), .val (.int p3), .val (.long q4), .second, .val (.int at4), .val (.long (own_key p2 p3)), .second, .val (.long ((M (own_key p2 p3)).getD (0 : Int64))), .second, .val (.long (((M (own_key p2 p3)).getD (0 : Int64)) + q4)), .second, .val (.long di), .second] [(.ref nc)])) _
          refine XS.iload X74.here hx rfl (hb hby dD_193) rfl ?_
          show Steps p.tables e below (T74.setTop (mkF m 195 #[.val (.ref a1), .val (.int p2), .val (.int p3), .val (.long q4), .second, .val (.int at4), .val (.long (own_key p2 p3)), .second, .val (.long ((M (own_key p2 p3)).getD (0 : Int64))), .second, .val (.long (((M (own_key p2 p3)).getD (0 : Int64)) + q4)), .second, .val (.long di), .second] [(.int at4), (.ref nc)])) _
          refine XS.iconst X74.here hx rfl (hb hby dD_195) ?_
          show Steps p.tables e below (T74.setTop (mkF m 196 #[.val (.ref a1), .val (.int p2), .val (.int p3), .val (.long q4), .second, .val (.int at4), .val (.long (own_key p2 p3)), .second, .val (.long ((M (own_key p2 p3)).getD (0 : Int64))), .second, .val (.long (((M (own_key p2 p3)).getD (0 : Int64)) + q4)), .second, .val (.long di), .second] [(.int (2 : Int32)), (.int at4), (.ref nc)])) _
          refine XS.iadd X74.here hx rfl (hb hby dD_196) rfl ?_
          show Steps p.tables e below (T74.setTop (mkF m 197 #[.val (.ref a1), .val (.int p2), .val (.int p3), .val (.long q4), .second, .val (.int at4), .val (.long (own_key p2 p3)), .second, .val (.long ((M (own_key p2 p3)).getD (0 : Int64))), .second, .val (.long (((M (own_key p2 p3)).getD (0 : Int64)) + q4)), .second, .val (.long di), .second] [(.int (at4 + (2 : Int32))), (.ref nc)])) _
          refine XS.aloadN X74.here hx rfl (hb hby dD_197) rfl rfl ?_
          show Steps p.tables e below (T74.setTop (mkF m 198 #[.val (.ref a1), .val (.int p2), .val (.int p3), .val (.long q4), .second, .val (.int at4), .val (.long (own_key p2 p3)), .second, .val (.long ((M (own_key p2 p3)).getD (0 : Int64))), .second, .val (.long (((M (own_key p2 p3)).getD (0 : Int64)) + q4)), .second, .val (.long di), .second] [(.ref a1), (.int (at4 + (2 : Int32))), (.ref nc)])) _
          refine st75 _ ?_
          show Steps p.tables e below (T75.setTop (mkF m 201 #[.val (.ref a1), .val (.int p2), .val (.int p3), .val (.long q4), .second, .val (.int at4), .val (.long (own_key p2 p3)), .second, .val (.long ((M (own_key p2 p3)).getD (0 : Int64))), .second, .val (.long (((M (own_key p2 p3)).getD (0 : Int64)) + q4)), .second, .val (.long di), .second] [(.ref nc), (.int (at4 + (2 : Int32))), (.ref nc)])) _
          refine XS.iload X75.here hx rfl (hb hby dD_201) rfl ?_
          show Steps p.tables e below (T75.setTop (mkF m 203 #[.val (.ref a1), .val (.int p2), .val (.int p3), .val (.long q4), .second, .val (.int at4), .val (.long (own_key p2 p3)), .second, .val (.long ((M (own_key p2 p3)).getD (0 : Int64))), .second, .val (.long (((M (own_key p2 p3)).getD (0 : Int64)) + q4)), .second, .val (.long di), .second] [(.int at4), (.ref nc), (.int (at4 + (2 : Int32))), (.ref nc)])) _
          refine XS.iconst X75.here hx rfl (hb hby dD_203) ?_
          show Steps p.tables e below (T75.setTop (mkF m 204 #[.val (.ref a1), .val (.int p2), .val (.int p3), .val (.long q4), .second, .val (.int at4), .val (.long (own_key p2 p3)), .second, .val (.long ((M (own_key p2 p3)).getD (0 : Int64))), .second, .val (.long (((M (own_key p2 p3)).getD (0 : Int64)) + q4)), .second, .val (.long di), .second] [(.int (2 : Int32)), (.int at4), (.ref nc), (.int (at4 + (2 : Int32))), (.ref nc)])) _
          refine XS.iadd X75.here hx rfl (hb hby dD_204) rfl ?_
          show Steps p.tables e below (T75.setTop (mkF m 205 #[.val (.ref a1), .val (.int p2), .val (.int p3), .val (.long q4), .second, .val (.int at4), .val (.long (own_key p2 p3)), .second, .val (.long ((M (own_key p2 p3)).getD (0 : Int64))), .second, .val (.long (((M (own_key p2 p3)).getD (0 : Int64)) + q4)), .second, .val (.long di), .second] [(.int (at4 + (2 : Int32))), (.ref nc), (.int (at4 + (2 : Int32))), (.ref nc)])) _
          refine oLdJ X75 hx hZ e75 f20 (k := (4 * nd + 2)) (own_addc (c := 2) rfl hat (by omega) (by decide)) (by omega) (v := (ct (4 * nd + 2))) (congrArg Value.long (by rw [own_u_ne (by omega)])) (g := (mkF m 205 #[.val (.ref a1), .val (.int p2), .val (.int p3), .val (.long q4), .second, .val (.int at4), .val (.long (own_key p2 p3)), .second, .val (.long ((M (own_key p2 p3)).getD (0 : Int64))), .second, .val (.long (((M (own_key p2 p3)).getD (0 : Int64)) + q4)), .second, .val (.long di), .second] [(.int (at4 + (2 : Int32))), (.ref nc), (.int (at4 + (2 : Int32))), (.ref nc)])) rfl rfl (hb hby dD_205) _ ?_
          show Steps p.tables e below (T75.setTop (mkF m 206 #[.val (.ref a1), .val (.int p2), .val (.int p3), .val (.long q4), .second, .val (.int at4), .val (.long (own_key p2 p3)), .second, .val (.long ((M (own_key p2 p3)).getD (0 : Int64))), .second, .val (.long (((M (own_key p2 p3)).getD (0 : Int64)) + q4)), .second, .val (.long di), .second] [(.long (ct (4 * nd + 2))), (.int (at4 + (2 : Int32))), (.ref nc)])) _
          refine XS.lload X75.here hx rfl (hb hby dD_206) rfl ?_
          show Steps p.tables e below (T75.setTop (mkF m 208 #[.val (.ref a1), .val (.int p2), .val (.int p3), .val (.long q4), .second, .val (.int at4), .val (.long (own_key p2 p3)), .second, .val (.long ((M (own_key p2 p3)).getD (0 : Int64))), .second, .val (.long (((M (own_key p2 p3)).getD (0 : Int64)) + q4)), .second, .val (.long di), .second] [(.long (((M (own_key p2 p3)).getD (0 : Int64)) + q4)), (.long (ct (4 * nd + 2))), (.int (at4 + (2 : Int32))), (.ref nc)])) _
          refine st76 _ ?_
          show Steps p.tables e below (T76.setTop (mkF m 211 #[.val (.ref a1), .val (.int p2), .val (.int p3), .val (.long q4), .second, .val (.int at4), .val (.long (own_key p2 p3)), .second, .val (.long ((M (own_key p2 p3)).getD (0 : Int64))), .second, .val (.long (((M (own_key p2 p3)).getD (0 : Int64)) + q4)), .second, .val (.long di), .second] [(.long (own_max (ct (4 * nd + 2)) (((M (own_key p2 p3)).getD (0 : Int64)) + q4))), (.int (at4 + (2 : Int32))), (.ref nc)])) _
          refine st77 _ ?_
          show Steps p.tables e below (T77.setTop (mkF m 212 #[.val (.ref a1), .val (.int p2), .val (.int p3), .val (.long q4), .second, .val (.int at4), .val (.long (own_key p2 p3)), .second, .val (.long ((M (own_key p2 p3)).getD (0 : Int64))), .second, .val (.long (((M (own_key p2 p3)).getD (0 : Int64)) + q4)), .second, .val (.long di), .second] [])) _
          refine XS.aloadN X77.here hx rfl (hb hby dD_212) rfl rfl ?_
          show Steps p.tables e below (T77.setTop (mkF m 213 #[.val (.ref a1), .val (.int p2), .val (.int p3), .val (.long q4), .second, .val (.int at4), .val (.long (own_key p2 p3)), .second, .val (.long ((M (own_key p2 p3)).getD (0 : Int64))), .second, .val (.long (((M (own_key p2 p3)).getD (0 : Int64)) + q4)), .second, .val (.long di), .second] [(.ref a1)])) _
          refine st83 _ ?_
          show Steps p.tables e below (T83.setTop (mkF m 216 #[.val (.ref a1), .val (.int p2), .val (.int p3), .val (.long q4), .second, .val (.int at4), .val (.long (own_key p2 p3)), .second, .val (.long ((M (own_key p2 p3)).getD (0 : Int64))), .second, .val (.long (((M (own_key p2 p3)).getD (0 : Int64)) + q4)), .second, .val (.long di), .second] [(.ref nc)])) _
          refine XS.iload X83.here hx rfl (hb hby dD_216) rfl ?_
          show Steps p.tables e below (T83.setTop (mkF m 218 #[.val (.ref a1), .val (.int p2), .val (.int p3), .val (.long q4), .second, .val (.int at4), .val (.long (own_key p2 p3)), .second, .val (.long ((M (own_key p2 p3)).getD (0 : Int64))), .second, .val (.long (((M (own_key p2 p3)).getD (0 : Int64)) + q4)), .second, .val (.long di), .second] [(.int at4), (.ref nc)])) _
          refine XS.iconst X83.here hx rfl (hb hby dD_218) ?_
          show Steps p.tables e below (T83.setTop (mkF m 219 #[.val (.ref a1), .val (.int p2), .val (.int p3), .val (.long q4), .second, .val (.int at4), .val (.long (own_key p2 p3)), .second, .val (.long ((M (own_key p2 p3)).getD (0 : Int64))), .second, .val (.long (((M (own_key p2 p3)).getD (0 : Int64)) + q4)), .second, .val (.long di), .second] [(.int (3 : Int32)), (.int at4), (.ref nc)])) _
          refine XS.iadd X83.here hx rfl (hb hby dD_219) rfl ?_
          show Steps p.tables e below (T83.setTop (mkF m 220 #[.val (.ref a1), .val (.int p2), .val (.int p3), .val (.long q4), .second, .val (.int at4), .val (.long (own_key p2 p3)), .second, .val (.long ((M (own_key p2 p3)).getD (0 : Int64))), .second, .val (.long (((M (own_key p2 p3)).getD (0 : Int64)) + q4)), .second, .val (.long di), .second] [(.int (at4 + (3 : Int32))), (.ref nc)])) _
          refine XS.lload X83.here hx rfl (hb hby dD_220) rfl ?_
          show Steps p.tables e below (T83.setTop (mkF m 222 #[.val (.ref a1), .val (.int p2), .val (.int p3), .val (.long q4), .second, .val (.int at4), .val (.long (own_key p2 p3)), .second, .val (.long ((M (own_key p2 p3)).getD (0 : Int64))), .second, .val (.long (((M (own_key p2 p3)).getD (0 : Int64)) + q4)), .second, .val (.long di), .second] [(.long di), (.int (at4 + (3 : Int32))), (.ref nc)])) _
          refine st84 _ ?_
          show Steps p.tables e below (T84.setTop (mkF m 223 #[.val (.ref a1), .val (.int p2), .val (.int p3), .val (.long q4), .second, .val (.int at4), .val (.long (own_key p2 p3)), .second, .val (.long ((M (own_key p2 p3)).getD (0 : Int64))), .second, .val (.long (((M (own_key p2 p3)).getD (0 : Int64)) + q4)), .second, .val (.long di), .second] [])) _
          exact k_)
      obtain ⟨fs, hr, hrun, hended, hW, hsame⟩ := X84.leave (v := none) (fun _ => rfl)
      refine ⟨_, _, pre90 _ ?_, hrun, hended, _, _, rfl, ?_, ⟨_, rfl⟩, hW, hsame.mono (by decide) (by decide)⟩
      · exact X84.returnOut hx Bd.returns (hb hby dD_223) hr
      · show QD Z a1 p2 p3 q4 nd nc pm sl us ct M n h0 n0 _ T84.heap _
        rw [e84]
        exact ⟨rfl, N84, K84, f88, (own_u (own_u (own_u ct (4 * nd + 0) (ct (4 * nd + 0) + q4)) (4 * nd + 2) (own_max (ct (4 * nd + 2)) (((M (own_key p2 p3)).getD (0 : Int64)) + q4))) (4 * nd + 3) di), Ac89, fun i hi => by rw [own_u_ne (by omega), own_u_ne (by omega), own_u_ne (by omega)], (by rw [own_u_ne (by omega), own_u_ne (by omega), own_u_same]), Or.inr (Or.inr ⟨by rw [← hdi]; exact c95_31, fun z => c135_49 (own_lcgt.mpr z), (by rw [own_u_ne (by omega), own_u_ne (by omega), own_u_ne (by omega)]), (by rw [own_u_ne (by omega), own_u_same]), ((by rw [own_u_same]) : _ = di).trans hdi⟩)⟩
theorem dME_0 : decode prog_34_method_13_code 0 = .ok (.iload_n 1, 1) := by decide +kernel
theorem dME_1 : decode prog_34_method_13_code 1 = .ok (.iconst 4, 1) := by decide +kernel
theorem dME_2 : decode prog_34_method_13_code 2 = .ok (.imul, 1) := by decide +kernel
theorem dME_3 : decode prog_34_method_13_code 3 = .ok (.istore_n 3, 1) := by decide +kernel
theorem dME_4 : decode prog_34_method_13_code 4 = .ok (.aload_n 0, 1) := by decide +kernel
theorem dME_5 : decode prog_34_method_13_code 5 = .ok (.getfield 16, 3) := by decide +kernel
theorem dME_8 : decode prog_34_method_13_code 8 = .ok (.iload_n 3, 1) := by decide +kernel
theorem dME_9 : decode prog_34_method_13_code 9 = .ok (.iconst 3, 1) := by decide +kernel
theorem dME_10 : decode prog_34_method_13_code 10 = .ok (.iadd, 1) := by decide +kernel
theorem dME_11 : decode prog_34_method_13_code 11 = .ok (.laload, 1) := by decide +kernel
theorem dME_12 : decode prog_34_method_13_code 12 = .ok (.l2i, 1) := by decide +kernel
theorem dME_13 : decode prog_34_method_13_code 13 = .ok (.iload_n 2, 1) := by decide +kernel
theorem dME_14 : decode prog_34_method_13_code 14 = .ok (.if_icmp .ne 7, 3) := by decide +kernel
theorem dME_17 : decode prog_34_method_13_code 17 = .ok (.iconst 1, 1) := by decide +kernel
theorem dME_18 : decode prog_34_method_13_code 18 = .ok (.goto 4, 3) := by decide +kernel
theorem dME_21 : decode prog_34_method_13_code 21 = .ok (.iconst 0, 1) := by decide +kernel
theorem dME_22 : decode prog_34_method_13_code 22 = .ok (.istore 4, 2) := by decide +kernel
theorem dME_24 : decode prog_34_method_13_code 24 = .ok (.aload_n 0, 1) := by decide +kernel
theorem dME_25 : decode prog_34_method_13_code 25 = .ok (.getfield 16, 3) := by decide +kernel
theorem dME_28 : decode prog_34_method_13_code 28 = .ok (.iload_n 3, 1) := by decide +kernel
theorem dME_29 : decode prog_34_method_13_code 29 = .ok (.iload 4, 2) := by decide +kernel
theorem dME_31 : decode prog_34_method_13_code 31 = .ok (.ifCond .eq 7, 3) := by decide +kernel
theorem dME_34 : decode prog_34_method_13_code 34 = .ok (.iconst 2, 1) := by decide +kernel
theorem dME_35 : decode prog_34_method_13_code 35 = .ok (.goto 4, 3) := by decide +kernel
theorem dME_38 : decode prog_34_method_13_code 38 = .ok (.iconst 1, 1) := by decide +kernel
theorem dME_39 : decode prog_34_method_13_code 39 = .ok (.iadd, 1) := by decide +kernel
theorem dME_40 : decode prog_34_method_13_code 40 = .ok (.laload, 1) := by decide +kernel
theorem dME_41 : decode prog_34_method_13_code 41 = .ok (.lreturn, 1) := by decide +kernel
theorem pnME : plainName "com/example/headwater/headwater/headdriven/EventCounts" = true := by first | (simp [plainName, overriddenIn]; done) | decide +kernel
theorem efME (m : MethodId) (a1 : Addr) (p2 : Int32) (p3 : Int32) : entryFrame m #[(.ref a1), (.int p2), (.int p3)] 5 = mkF m 0 #[.val (.ref a1), .val (.int p2), .val (.int p3), .unset, .unset] [] := by first | (simp [entryFrame, mkF, argsToLocals, Value.category]; done) | rfl
def QME (Z : State) (a1 : Addr) (p2 p3 : Int32) (nd : Nat) (nc : Addr) (ct : Nat → Int64) (h0 : Heap) (n0 : Nat) (v : Option Value) (h : Heap) (L : List Loc) : Prop := v = some (.long (if (ct (4 * nd + 3)).toInt32 = p3 then ct (4 * nd + 2) else ct (4 * nd + 1))) ∧ Fr n0 L ∧ h = h0
set_option maxRecDepth 65536 in
set_option maxHeartbeats 40000000 in
theorem rmME (l : Launch) (Z : State) (a0 : Array Value) (hw : ∀ d ∈ tables_1, d.before a0 Z = true) (ws : List Jvm.Cond) (a1 : Addr) (p2 p3 : Int32) (nd : Nat) (nc : Addr) (ct : Nat → Int64) (h0 : Heap) (n0 : Nat) (Z0 : n0 ≤ h0.size) (F2 : Fld Z h0 a1 "com/example/headwater/headwater/headdriven/EventCounts" "m_aNodeCounts" "[J" (.ref nc)) (A1 : OArr Z h0 nc .long 64 (fun i => .long (ct i))) (hnd : p2.toInt = (nd : Int)) (hnd1 : nd ≤ 1) :
    MetFree l (⟨"com/example/headwater/headwater/headdriven/EventCounts", "mostExcept", "(II)J"⟩ : MethodName) (head1 (Jvm.Cond.code (⟨"com/example/headwater/headwater/headdriven/EventCounts", "mostExcept", "(II)J"⟩ : MethodName) prog_34_method_13_code 5 (some .long) :: ws) ({ frames := 0, cells := 0, slots := 0, locals := 0 } : Room)) (fun a U => a = #[(.ref a1), (.int p2), (.int p3)] ∧ Z.Warmed39 U.vm ∧ U.heap = h0) (fun _ _ _ _ _ => True) (fun _ U o U' => ∃ v L, o = .returned v ∧ QME Z a1 p2 p3 nd nc ct h0 n0 v U'.heap L ∧ FrameEnd U o U' L ({ frames := 0, cells := 0, slots := 0, locals := 0 } : Room).cells ({ frames := 0, cells := 0, slots := 0, locals := 0 } : Room).slots) := by
  refine MetFree.of_bodySF (plainFor_of_name pnME) hisR ?_
  intro p e s m args below meth c s₁ Bd hml0 hP hK
  obtain ⟨rfl, hZ, hh⟩ := hP
  have hx := Bd.exec
  have hby := Bd.bytes
  have hml : c.maxLocals = 5 := hml0
  have hown : s.vm.findClass "com/example/headwater/headwater/headdriven/EventCounts" = some m.cls := findClass_of_methodNamed Bd.named
  have hnm := (name_of_methodNamed Bd.named Bd.method).1
  have X0 : Stand p l e ({ frames := 0, cells := 0, slots := 0, locals := 0 } : Room) s m #[(.ref a1), (.int p2), (.int p3)] below meth c s₁ [] 0 0 := Stand.of_body Bd
  have e0 : s₁.heap = h0 := by rw [← hh, Bd.state]; rfl
  have N0 := Fr.nil n0
  have pre0 : ∀ t, Steps p.tables e below (s₁.setTop (mkF m 0 #[.val (.ref a1), .val (.int p2), .val (.int p3), .unset, .unset] [])) t → Steps p.tables e below (s₁.setTop (entryFrame m #[(.ref a1), (.int p2), (.int p3)] 5)) t := fun t k => castTop (efME m a1 p2 p3) k
  have pre1 : ∀ t_, Steps p.tables e below (s₁.setTop (mkF m 4 #[.val (.ref a1), .val (.int p2), .val (.int p3), .val (.int (p2 * (4 : Int32))), .unset] [])) t_ → Steps p.tables e below (s₁.setTop (entryFrame m #[(.ref a1), (.int p2), (.int p3)] 5)) t_ := fun t_ k_ => pre0 t_ (by
      refine XS.iloadN X0.here hx rfl (hb hby dME_0) rfl ?_
      show Steps p.tables e below (s₁.setTop (mkF m 1 #[.val (.ref a1), .val (.int p2), .val (.int p3), .unset, .unset] [(.int p2)])) _
      refine XS.iconst X0.here hx rfl (hb hby dME_1) ?_
      show Steps p.tables e below (s₁.setTop (mkF m 2 #[.val (.ref a1), .val (.int p2), .val (.int p3), .unset, .unset] [(.int (4 : Int32)), (.int p2)])) _
      refine XS.imul X0.here hx rfl (hb hby dME_2) rfl ?_
      show Steps p.tables e below (s₁.setTop (mkF m 3 #[.val (.ref a1), .val (.int p2), .val (.int p3), .unset, .unset] [(.int (p2 * (4 : Int32)))])) _
      refine XS.istoreN X0.here hx rfl (hb hby dME_3) rfl (l' := #[.val (.ref a1), .val (.int p2), .val (.int p3), .val (.int (p2 * (4 : Int32))), .unset]) rfl ?_
      show Steps p.tables e below (s₁.setTop (mkF m 4 #[.val (.ref a1), .val (.int p2), .val (.int p3), .val (.int (p2 * (4 : Int32))), .unset] [])) _
      exact k_)
  obtain ⟨at4, e_at4⟩ : ∃ z : Int32, z = (p2 * (4 : Int32)) := ⟨_, rfl⟩
  have pre2 : ∀ t_, Steps p.tables e below (s₁.setTop (mkF m 4 #[.val (.ref a1), .val (.int p2), .val (.int p3), .val (.int at4), .unset] [])) t_ → Steps p.tables e below (s₁.setTop (entryFrame m #[(.ref a1), (.int p2), (.int p3)] 5)) t_ := by subst e_at4; exact pre1
  have hat : at4.toInt = ((4 * nd : Nat) : Int) := by rw [e_at4, own_mulc (c := 4) rfl hnd (by omega) (by decide)]; omega
  obtain ⟨T3, X3, e3, st3⟩ := getF X0 hx hZ hown (host := "") (Or.inl (hw _ (List.mem_of_getElem? (i := 48) rfl))) Via.refl e0 F2 (g := (mkF m 5 #[.val (.ref a1), .val (.int p2), .val (.int p3), .val (.int at4), .unset] [(.ref a1)])) rfl rfl (hb hby dME_5)
  have pre4 : ∀ t_, Steps p.tables e below (T3.setTop (mkF m 14 #[.val (.ref a1), .val (.int p2), .val (.int p3), .val (.int at4), .unset] [(.int p3), (.int ((ct (4 * nd + 3)).toInt32))])) t_ → Steps p.tables e below (s₁.setTop (entryFrame m #[(.ref a1), (.int p2), (.int p3)] 5)) t_ := fun t_ k_ => pre2 t_ (by
      refine XS.aloadN X0.here hx rfl (hb hby dME_4) rfl rfl ?_
      show Steps p.tables e below (s₁.setTop (mkF m 5 #[.val (.ref a1), .val (.int p2), .val (.int p3), .val (.int at4), .unset] [(.ref a1)])) _
      refine st3 _ ?_
      show Steps p.tables e below (T3.setTop (mkF m 8 #[.val (.ref a1), .val (.int p2), .val (.int p3), .val (.int at4), .unset] [(.ref nc)])) _
      refine XS.iloadN X3.here hx rfl (hb hby dME_8) rfl ?_
      show Steps p.tables e below (T3.setTop (mkF m 9 #[.val (.ref a1), .val (.int p2), .val (.int p3), .val (.int at4), .unset] [(.int at4), (.ref nc)])) _
      refine XS.iconst X3.here hx rfl (hb hby dME_9) ?_
      show Steps p.tables e below (T3.setTop (mkF m 10 #[.val (.ref a1), .val (.int p2), .val (.int p3), .val (.int at4), .unset] [(.int (3 : Int32)), (.int at4), (.ref nc)])) _
      refine XS.iadd X3.here hx rfl (hb hby dME_10) rfl ?_
      show Steps p.tables e below (T3.setTop (mkF m 11 #[.val (.ref a1), .val (.int p2), .val (.int p3), .val (.int at4), .unset] [(.int (at4 + (3 : Int32))), (.ref nc)])) _
      refine oLdJ X3 hx hZ e3 A1 (k := (4 * nd + 3)) (own_addc (c := 3) rfl hat (by omega) (by decide)) (by omega) (v := (ct (4 * nd + 3))) rfl (g := (mkF m 11 #[.val (.ref a1), .val (.int p2), .val (.int p3), .val (.int at4), .unset] [(.int (at4 + (3 : Int32))), (.ref nc)])) rfl rfl (hb hby dME_11) _ ?_
      show Steps p.tables e below (T3.setTop (mkF m 12 #[.val (.ref a1), .val (.int p2), .val (.int p3), .val (.int at4), .unset] [(.long (ct (4 * nd + 3)))])) _
      refine XS.l2i X3.here hx rfl (hb hby dME_12) rfl ?_
      show Steps p.tables e below (T3.setTop (mkF m 13 #[.val (.ref a1), .val (.int p2), .val (.int p3), .val (.int at4), .unset] [(.int ((ct (4 * nd + 3)).toInt32))])) _
      refine XS.iloadN X3.here hx rfl (hb hby dME_13) rfl ?_
      show Steps p.tables e below (T3.setTop (mkF m 14 #[.val (.ref a1), .val (.int p2), .val (.int p3), .val (.int at4), .unset] [(.int p3), (.int ((ct (4 * nd + 3)).toInt32))])) _
      exact k_)
  by_cases c14_5 : ((ct (4 * nd + 3)).toInt32) = p3
  · obtain ⟨T6, X6, e6, st6⟩ := getF X3 hx hZ hown (host := "") (Or.inl (hw _ (List.mem_of_getElem? (i := 48) rfl))) Via.refl e3 F2 (g := (mkF m 25 #[.val (.ref a1), .val (.int p2), .val (.int p3), .val (.int at4), .val (.int (1 : Int32))] [(.ref a1)])) rfl rfl (hb hby dME_25)
    have pre7 : ∀ t_, Steps p.tables e below (T6.setTop (mkF m 41 #[.val (.ref a1), .val (.int p2), .val (.int p3), .val (.int at4), .val (.int (1 : Int32))] [(.long (ct (4 * nd + 2)))])) t_ → Steps p.tables e below (s₁.setTop (entryFrame m #[(.ref a1), (.int p2), (.int p3)] 5)) t_ := fun t_ k_ => pre4 t_ (by
        refine XS.icmpNo X3.here hx rfl (hb hby dME_14) rfl (teq c14_5).2 ?_
        show Steps p.tables e below (T3.setTop (mkF m 17 #[.val (.ref a1), .val (.int p2), .val (.int p3), .val (.int at4), .unset] [])) _
        refine XS.iconst X3.here hx rfl (hb hby dME_17) ?_
        show Steps p.tables e below (T3.setTop (mkF m 18 #[.val (.ref a1), .val (.int p2), .val (.int p3), .val (.int at4), .unset] [(.int (1 : Int32))])) _
        refine XS.goto X3.here hx rfl (pc0 := 18) (pc' := 22) rfl (hb hby dME_18) (by decide) (by decide) ?_
        show Steps p.tables e below (T3.setTop (mkF m 22 #[.val (.ref a1), .val (.int p2), .val (.int p3), .val (.int at4), .unset] [(.int (1 : Int32))])) _
        refine XS.istore X3.here hx rfl (hb hby dME_22) rfl (l' := #[.val (.ref a1), .val (.int p2), .val (.int p3), .val (.int at4), .val (.int (1 : Int32))]) rfl ?_
        show Steps p.tables e below (T3.setTop (mkF m 24 #[.val (.ref a1), .val (.int p2), .val (.int p3), .val (.int at4), .val (.int (1 : Int32))] [])) _
        refine XS.aloadN X3.here hx rfl (hb hby dME_24) rfl rfl ?_
        show Steps p.tables e below (T3.setTop (mkF m 25 #[.val (.ref a1), .val (.int p2), .val (.int p3), .val (.int at4), .val (.int (1 : Int32))] [(.ref a1)])) _
        refine st6 _ ?_
        show Steps p.tables e below (T6.setTop (mkF m 28 #[.val (.ref a1), .val (.int p2), .val (.int p3), .val (.int at4), .val (.int (1 : Int32))] [(.ref nc)])) _
        refine XS.iloadN X6.here hx rfl (hb hby dME_28) rfl ?_
        show Steps p.tables e below (T6.setTop (mkF m 29 #[.val (.ref a1), .val (.int p2), .val (.int p3), .val (.int at4), .val (.int (1 : Int32))] [(.int at4), (.ref nc)])) _
        refine XS.iload X6.here hx rfl (hb hby dME_29) rfl ?_
        show Steps p.tables e below (T6.setTop (mkF m 31 #[.val (.ref a1), .val (.int p2), .val (.int p3), .val (.int at4), .val (.int (1 : Int32))] [(.int (1 : Int32)), (.int at4), (.ref nc)])) _
        refine XS.ifNo X6.here hx rfl (hb hby dME_31) rfl ((if0 _ _).trans (feq (by decide : ¬ ((1 : Int32) = (0 : Int32)))).1) ?_
        show Steps p.tables e below (T6.setTop (mkF m 34 #[.val (.ref a1), .val (.int p2), .val (.int p3), .val (.int at4), .val (.int (1 : Int32))] [(.int at4), (.ref nc)])) _
        refine XS.iconst X6.here hx rfl (hb hby dME_34) ?_
        show Steps p.tables e below (T6.setTop (mkF m 35 #[.val (.ref a1), .val (.int p2), .val (.int p3), .val (.int at4), .val (.int (1 : Int32))] [(.int (2 : Int32)), (.int at4), (.ref nc)])) _
        refine XS.goto X6.here hx rfl (pc0 := 35) (pc' := 39) rfl (hb hby dME_35) (by decide) (by decide) ?_
        show Steps p.tables e below (T6.setTop (mkF m 39 #[.val (.ref a1), .val (.int p2), .val (.int p3), .val (.int at4), .val (.int (1 : Int32))] [(.int (2 : Int32)), (.int at4), (.ref nc)])) _
        refine XS.iadd X6.here hx rfl (hb hby dME_39) rfl ?_
        show Steps p.tables e below (T6.setTop (mkF m 40 #[.val (.ref a1), .val (.int p2), .val (.int p3), .val (.int at4), .val (.int (1 : Int32))] [(.int (at4 + (2 : Int32))), (.ref nc)])) _
        refine oLdJ X6 hx hZ e6 A1 (k := (4 * nd + 2)) (own_addc (c := 2) rfl hat (by omega) (by decide)) (by omega) (v := (ct (4 * nd + 2))) rfl (g := (mkF m 40 #[.val (.ref a1), .val (.int p2), .val (.int p3), .val (.int at4), .val (.int (1 : Int32))] [(.int (at4 + (2 : Int32))), (.ref nc)])) rfl rfl (hb hby dME_40) _ ?_
        show Steps p.tables e below (T6.setTop (mkF m 41 #[.val (.ref a1), .val (.int p2), .val (.int p3), .val (.int at4), .val (.int (1 : Int32))] [(.long (ct (4 * nd + 2)))])) _
        exact k_)
    obtain ⟨fs, hr, hrun, hended, hW, hsame⟩ := X6.leave (v := some (.long (ct (4 * nd + 2)))) (fun h => by rw [Bd.returns] at h; cases h)
    refine ⟨_, _, pre7 _ ?_, hrun, hended, _, _, rfl, ?_, ⟨_, rfl⟩, hW, hsame.mono (by decide) (by decide)⟩
    · exact X6.lreturnOut hx Bd.returns (hb hby dME_41) hr
    · show QME Z a1 p2 p3 nd nc ct h0 n0 _ T6.heap _
      rw [e6]
      exact ⟨congrArg (fun z => some (Value.long z)) (if_pos c14_5).symm, N0, rfl⟩
  · obtain ⟨T8, X8, e8, st8⟩ := getF X3 hx hZ hown (host := "") (Or.inl (hw _ (List.mem_of_getElem? (i := 48) rfl))) Via.refl e3 F2 (g := (mkF m 25 #[.val (.ref a1), .val (.int p2), .val (.int p3), .val (.int at4), .val (.int (0 : Int32))] [(.ref a1)])) rfl rfl (hb hby dME_25)
    have pre9 : ∀ t_, Steps p.tables e below (T8.setTop (mkF m 41 #[.val (.ref a1), .val (.int p2), .val (.int p3), .val (.int at4), .val (.int (0 : Int32))] [(.long (ct (4 * nd + 1)))])) t_ → Steps p.tables e below (s₁.setTop (entryFrame m #[(.ref a1), (.int p2), (.int p3)] 5)) t_ := fun t_ k_ => pre4 t_ (by
        refine XS.icmpYes X3.here hx rfl (pc0 := 14) (pc' := 21) rfl (hb hby dME_14) rfl (feq c14_5).2 (by decide) (by decide) ?_
        show Steps p.tables e below (T3.setTop (mkF m 21 #[.val (.ref a1), .val (.int p2), .val (.int p3), .val (.int at4), .unset] [])) _
        refine XS.iconst X3.here hx rfl (hb hby dME_21) ?_
        show Steps p.tables e below (T3.setTop (mkF m 22 #[.val (.ref a1), .val (.int p2), .val (.int p3), .val (.int at4), .unset] [(.int (0 : Int32))])) _
        refine XS.istore X3.here hx rfl (hb hby dME_22) rfl (l' := #[.val (.ref a1), .val (.int p2), .val (.int p3), .val (.int at4), .val (.int (0 : Int32))]) rfl ?_
        show Steps p.tables e below (T3.setTop (mkF m 24 #[.val (.ref a1), .val (.int p2), .val (.int p3), .val (.int at4), .val (.int (0 : Int32))] [])) _
        refine XS.aloadN X3.here hx rfl (hb hby dME_24) rfl rfl ?_
        show Steps p.tables e below (T3.setTop (mkF m 25 #[.val (.ref a1), .val (.int p2), .val (.int p3), .val (.int at4), .val (.int (0 : Int32))] [(.ref a1)])) _
        refine st8 _ ?_
        show Steps p.tables e below (T8.setTop (mkF m 28 #[.val (.ref a1), .val (.int p2), .val (.int p3), .val (.int at4), .val (.int (0 : Int32))] [(.ref nc)])) _
        refine XS.iloadN X8.here hx rfl (hb hby dME_28) rfl ?_
        show Steps p.tables e below (T8.setTop (mkF m 29 #[.val (.ref a1), .val (.int p2), .val (.int p3), .val (.int at4), .val (.int (0 : Int32))] [(.int at4), (.ref nc)])) _
        refine XS.iload X8.here hx rfl (hb hby dME_29) rfl ?_
        show Steps p.tables e below (T8.setTop (mkF m 31 #[.val (.ref a1), .val (.int p2), .val (.int p3), .val (.int at4), .val (.int (0 : Int32))] [(.int (0 : Int32)), (.int at4), (.ref nc)])) _
        refine XS.ifYes X8.here hx rfl (pc0 := 31) (pc' := 38) rfl (hb hby dME_31) rfl ((if0 _ _).trans (teq (by decide : (0 : Int32) = (0 : Int32))).1) (by decide) (by decide) ?_
        show Steps p.tables e below (T8.setTop (mkF m 38 #[.val (.ref a1), .val (.int p2), .val (.int p3), .val (.int at4), .val (.int (0 : Int32))] [(.int at4), (.ref nc)])) _
        refine XS.iconst X8.here hx rfl (hb hby dME_38) ?_
        show Steps p.tables e below (T8.setTop (mkF m 39 #[.val (.ref a1), .val (.int p2), .val (.int p3), .val (.int at4), .val (.int (0 : Int32))] [(.int (1 : Int32)), (.int at4), (.ref nc)])) _
        refine XS.iadd X8.here hx rfl (hb hby dME_39) rfl ?_
        show Steps p.tables e below (T8.setTop (mkF m 40 #[.val (.ref a1), .val (.int p2), .val (.int p3), .val (.int at4), .val (.int (0 : Int32))] [(.int (at4 + (1 : Int32))), (.ref nc)])) _
        refine oLdJ X8 hx hZ e8 A1 (k := (4 * nd + 1)) (own_addc (c := 1) rfl hat (by omega) (by decide)) (by omega) (v := (ct (4 * nd + 1))) rfl (g := (mkF m 40 #[.val (.ref a1), .val (.int p2), .val (.int p3), .val (.int at4), .val (.int (0 : Int32))] [(.int (at4 + (1 : Int32))), (.ref nc)])) rfl rfl (hb hby dME_40) _ ?_
        show Steps p.tables e below (T8.setTop (mkF m 41 #[.val (.ref a1), .val (.int p2), .val (.int p3), .val (.int at4), .val (.int (0 : Int32))] [(.long (ct (4 * nd + 1)))])) _
        exact k_)
    obtain ⟨fs, hr, hrun, hended, hW, hsame⟩ := X8.leave (v := some (.long (ct (4 * nd + 1)))) (fun h => by rw [Bd.returns] at h; cases h)
    refine ⟨_, _, pre9 _ ?_, hrun, hended, _, _, rfl, ?_, ⟨_, rfl⟩, hW, hsame.mono (by decide) (by decide)⟩
    · exact X8.lreturnOut hx Bd.returns (hb hby dME_41) hr
    · show QME Z a1 p2 p3 nd nc ct h0 n0 _ T8.heap _
      rw [e8]
      exact ⟨congrArg (fun z => some (Value.long z)) (if_neg c14_5).symm, N0, rfl⟩
theorem dO_0 : decode method_2_code 0 = .ok (.lconst 0, 1) := by decide +kernel
theorem dO_1 : decode method_2_code 1 = .ok (.lstore 10, 2) := by decide +kernel
theorem dO_3 : decode method_2_code 3 = .ok (.iload_n 1, 1) := by decide +kernel
theorem dO_4 : decode method_2_code 4 = .ok (.iload_n 0, 1) := by decide +kernel
theorem dO_5 : decode method_2_code 5 = .ok (.if_icmp .ne 10, 3) := by decide +kernel
theorem dO_8 : decode method_2_code 8 = .ok (.lload 10, 2) := by decide +kernel
theorem dO_10 : decode method_2_code 10 = .ok (.lload 4, 2) := by decide +kernel
theorem dO_12 : decode method_2_code 12 = .ok (.ladd, 1) := by decide +kernel
theorem dO_13 : decode method_2_code 13 = .ok (.lstore 10, 2) := by decide +kernel
theorem dO_15 : decode method_2_code 15 = .ok (.iload_n 2, 1) := by decide +kernel
theorem dO_16 : decode method_2_code 16 = .ok (.iload_n 0, 1) := by decide +kernel
theorem dO_17 : decode method_2_code 17 = .ok (.if_icmp .ne 10, 3) := by decide +kernel
theorem dO_20 : decode method_2_code 20 = .ok (.lload 10, 2) := by decide +kernel
theorem dO_22 : decode method_2_code 22 = .ok (.lload 6, 2) := by decide +kernel
theorem dO_24 : decode method_2_code 24 = .ok (.ladd, 1) := by decide +kernel
theorem dO_25 : decode method_2_code 25 = .ok (.lstore 10, 2) := by decide +kernel
theorem dO_27 : decode method_2_code 27 = .ok (.iload_n 3, 1) := by decide +kernel
theorem dO_28 : decode method_2_code 28 = .ok (.iload_n 0, 1) := by decide +kernel
theorem dO_29 : decode method_2_code 29 = .ok (.if_icmp .ne 10, 3) := by decide +kernel
theorem dO_32 : decode method_2_code 32 = .ok (.lload 10, 2) := by decide +kernel
theorem dO_34 : decode method_2_code 34 = .ok (.lload 8, 2) := by decide +kernel
theorem dO_36 : decode method_2_code 36 = .ok (.ladd, 1) := by decide +kernel
theorem dO_37 : decode method_2_code 37 = .ok (.lstore 10, 2) := by decide +kernel
theorem dO_39 : decode method_2_code 39 = .ok (.lload 10, 2) := by decide +kernel
theorem dO_41 : decode method_2_code 41 = .ok (.lreturn, 1) := by decide +kernel
theorem pnO : plainName "com/example/headwater/headwater/headdriven/EventCountsMostExceptPinLaw" = true := by first | (simp [plainName, overriddenIn]; done) | decide +kernel
theorem efO (m : MethodId) (p0 : Int32) (p1 : Int32) (p2 : Int32) (p3 : Int32) (q4 : Int64) (q5 : Int64) (q6 : Int64) : entryFrame m #[(.int p0), (.int p1), (.int p2), (.int p3), (.long q4), (.long q5), (.long q6)] 12 = mkF m 0 #[.val (.int p0), .val (.int p1), .val (.int p2), .val (.int p3), .val (.long q4), .second, .val (.long q5), .second, .val (.long q6), .second, .unset, .unset] [] := by first | (simp [entryFrame, mkF, argsToLocals, Value.category]; done) | rfl
def QO (Z : State) (p0 p1 p2 p3 : Int32) (q4 q5 q6 : Int64) (h0 : Heap) (n0 : Nat) (v : Option Value) (h : Heap) (L : List Loc) : Prop := v = some (.long (own_if (own_if (own_if (0 : Int64) p1 p0 q4) p2 p0 q5) p3 p0 q6)) ∧ Fr n0 L ∧ h = h0
set_option maxRecDepth 65536 in
set_option maxHeartbeats 40000000 in
theorem rmO (l : Launch) (Z : State) (a0 : Array Value) (hw : ∀ d ∈ tables_1, d.before a0 Z = true) (ws : List Jvm.Cond) (p0 p1 p2 p3 : Int32) (q4 q5 q6 : Int64) (h0 : Heap) (n0 : Nat) (Z0 : n0 ≤ h0.size) :
    MetFree l (⟨"com/example/headwater/headwater/headdriven/EventCountsMostExceptPinLaw", "tot", "(IIIIJJJ)J"⟩ : MethodName) (head1 (Jvm.Cond.code (⟨"com/example/headwater/headwater/headdriven/EventCountsMostExceptPinLaw", "tot", "(IIIIJJJ)J"⟩ : MethodName) method_2_code 12 (some .long) :: ws) ({ frames := 0, cells := 0, slots := 0, locals := 0 } : Room)) (fun a U => a = #[(.int p0), (.int p1), (.int p2), (.int p3), (.long q4), (.long q5), (.long q6)] ∧ Z.Warmed39 U.vm ∧ U.heap = h0) (fun _ _ _ _ _ => True) (fun _ U o U' => ∃ v L, o = .returned v ∧ QO Z p0 p1 p2 p3 q4 q5 q6 h0 n0 v U'.heap L ∧ FrameEnd U o U' L ({ frames := 0, cells := 0, slots := 0, locals := 0 } : Room).cells ({ frames := 0, cells := 0, slots := 0, locals := 0 } : Room).slots) := by
  refine MetFree.of_bodySF (plainFor_of_name pnO) hisR ?_
  intro p e s m args below meth c s₁ Bd hml0 hP hK
  obtain ⟨rfl, hZ, hh⟩ := hP
  have hx := Bd.exec
  have hby := Bd.bytes
  have hml : c.maxLocals = 12 := hml0
  have hown : s.vm.findClass "com/example/headwater/headwater/headdriven/EventCountsMostExceptPinLaw" = some m.cls := findClass_of_methodNamed Bd.named
  have hnm := (name_of_methodNamed Bd.named Bd.method).1
  have X0 : Stand p l e ({ frames := 0, cells := 0, slots := 0, locals := 0 } : Room) s m #[(.int p0), (.int p1), (.int p2), (.int p3), (.long q4), (.long q5), (.long q6)] below meth c s₁ [] 0 0 := Stand.of_body Bd
  have e0 : s₁.heap = h0 := by rw [← hh, Bd.state]; rfl
  have N0 := Fr.nil n0
  have pre0 : ∀ t, Steps p.tables e below (s₁.setTop (mkF m 0 #[.val (.int p0), .val (.int p1), .val (.int p2), .val (.int p3), .val (.long q4), .second, .val (.long q5), .second, .val (.long q6), .second, .unset, .unset] [])) t → Steps p.tables e below (s₁.setTop (entryFrame m #[(.int p0), (.int p1), (.int p2), (.int p3), (.long q4), (.long q5), (.long q6)] 12)) t := fun t k => castTop (efO m p0 p1 p2 p3 q4 q5 q6) k
  have pre1 : ∀ t_, Steps p.tables e below (s₁.setTop (mkF m 3 #[.val (.int p0), .val (.int p1), .val (.int p2), .val (.int p3), .val (.long q4), .second, .val (.long q5), .second, .val (.long q6), .second, .val (.long (0 : Int64)), .second] [])) t_ → Steps p.tables e below (s₁.setTop (entryFrame m #[(.int p0), (.int p1), (.int p2), (.int p3), (.long q4), (.long q5), (.long q6)] 12)) t_ := fun t_ k_ => pre0 t_ (by
      refine XS.lconst X0.here hx rfl (hb hby dO_0) ?_
      show Steps p.tables e below (s₁.setTop (mkF m 1 #[.val (.int p0), .val (.int p1), .val (.int p2), .val (.int p3), .val (.long q4), .second, .val (.long q5), .second, .val (.long q6), .second, .unset, .unset] [(.long (0 : Int64))])) _
      refine XS.lstore X0.here hx rfl (hb hby dO_1) rfl (l' := #[.val (.int p0), .val (.int p1), .val (.int p2), .val (.int p3), .val (.long q4), .second, .val (.long q5), .second, .val (.long q6), .second, .val (.long (0 : Int64)), .second]) rfl ?_
      show Steps p.tables e below (s₁.setTop (mkF m 3 #[.val (.int p0), .val (.int p1), .val (.int p2), .val (.int p3), .val (.long q4), .second, .val (.long q5), .second, .val (.long q6), .second, .val (.long (0 : Int64)), .second] [])) _
      exact k_)
  obtain ⟨t2, hv2, pre2⟩ : ∃ (t2 : Int64), (t2 = own_if (0 : Int64) p1 p0 q4) ∧ ∀ t_, Steps p.tables e below (s₁.setTop (mkF m 15 #[.val (.int p0), .val (.int p1), .val (.int p2), .val (.int p3), .val (.long q4), .second, .val (.long q5), .second, .val (.long q6), .second, .val (.long t2), .second] [])) t_ → Steps p.tables e below (s₁.setTop (entryFrame m #[(.int p0), (.int p1), (.int p2), (.int p3), (.long q4), (.long q5), (.long q6)] 12)) t_ := by
    have pre3 : ∀ t_, Steps p.tables e below (s₁.setTop (mkF m 5 #[.val (.int p0), .val (.int p1), .val (.int p2), .val (.int p3), .val (.long q4), .second, .val (.long q5), .second, .val (.long q6), .second, .val (.long (0 : Int64)), .second] [(.int p0), (.int p1)])) t_ → Steps p.tables e below (s₁.setTop (entryFrame m #[(.int p0), (.int p1), (.int p2), (.int p3), (.long q4), (.long q5), (.long q6)] 12)) t_ := fun t_ k_ => pre1 t_ (by
        refine XS.iloadN X0.here hx rfl (hb hby dO_3) rfl ?_
        show Steps p.tables e below (s₁.setTop (mkF m 4 #[.val (.int p0), .val (.int p1), .val (.int p2), .val (.int p3), .val (.long q4), .second, .val (.long q5), .second, .val (.long q6), .second, .val (.long (0 : Int64)), .second] [(.int p1)])) _
        refine XS.iloadN X0.here hx rfl (hb hby dO_4) rfl ?_
        show Steps p.tables e below (s₁.setTop (mkF m 5 #[.val (.int p0), .val (.int p1), .val (.int p2), .val (.int p3), .val (.long q4), .second, .val (.long q5), .second, .val (.long q6), .second, .val (.long (0 : Int64)), .second] [(.int p0), (.int p1)])) _
        exact k_)
    by_cases c5_4 : p1 = p0
    · have pre5 : ∀ t_, Steps p.tables e below (s₁.setTop (mkF m 15 #[.val (.int p0), .val (.int p1), .val (.int p2), .val (.int p3), .val (.long q4), .second, .val (.long q5), .second, .val (.long q6), .second, .val (.long ((0 : Int64) + q4)), .second] [])) t_ → Steps p.tables e below (s₁.setTop (entryFrame m #[(.int p0), (.int p1), (.int p2), (.int p3), (.long q4), (.long q5), (.long q6)] 12)) t_ := fun t_ k_ => pre3 t_ (by
          refine XS.icmpNo X0.here hx rfl (hb hby dO_5) rfl (teq c5_4).2 ?_
          show Steps p.tables e below (s₁.setTop (mkF m 8 #[.val (.int p0), .val (.int p1), .val (.int p2), .val (.int p3), .val (.long q4), .second, .val (.long q5), .second, .val (.long q6), .second, .val (.long (0 : Int64)), .second] [])) _
          refine XS.lload X0.here hx rfl (hb hby dO_8) rfl ?_
          show Steps p.tables e below (s₁.setTop (mkF m 10 #[.val (.int p0), .val (.int p1), .val (.int p2), .val (.int p3), .val (.long q4), .second, .val (.long q5), .second, .val (.long q6), .second, .val (.long (0 : Int64)), .second] [(.long (0 : Int64))])) _
          refine XS.lload X0.here hx rfl (hb hby dO_10) rfl ?_
          show Steps p.tables e below (s₁.setTop (mkF m 12 #[.val (.int p0), .val (.int p1), .val (.int p2), .val (.int p3), .val (.long q4), .second, .val (.long q5), .second, .val (.long q6), .second, .val (.long (0 : Int64)), .second] [(.long q4), (.long (0 : Int64))])) _
          refine XS.ladd X0.here hx rfl (hb hby dO_12) rfl ?_
          show Steps p.tables e below (s₁.setTop (mkF m 13 #[.val (.int p0), .val (.int p1), .val (.int p2), .val (.int p3), .val (.long q4), .second, .val (.long q5), .second, .val (.long q6), .second, .val (.long (0 : Int64)), .second] [(.long ((0 : Int64) + q4))])) _
          refine XS.lstore X0.here hx rfl (hb hby dO_13) rfl (l' := #[.val (.int p0), .val (.int p1), .val (.int p2), .val (.int p3), .val (.long q4), .second, .val (.long q5), .second, .val (.long q6), .second, .val (.long ((0 : Int64) + q4)), .second]) rfl ?_
          show Steps p.tables e below (s₁.setTop (mkF m 15 #[.val (.int p0), .val (.int p1), .val (.int p2), .val (.int p3), .val (.long q4), .second, .val (.long q5), .second, .val (.long q6), .second, .val (.long ((0 : Int64) + q4)), .second] [])) _
          exact k_)
      exact ⟨((0 : Int64) + q4), (if_pos c5_4).symm, pre5⟩
    · have pre6 : ∀ t_, Steps p.tables e below (s₁.setTop (mkF m 15 #[.val (.int p0), .val (.int p1), .val (.int p2), .val (.int p3), .val (.long q4), .second, .val (.long q5), .second, .val (.long q6), .second, .val (.long (0 : Int64)), .second] [])) t_ → Steps p.tables e below (s₁.setTop (entryFrame m #[(.int p0), (.int p1), (.int p2), (.int p3), (.long q4), (.long q5), (.long q6)] 12)) t_ := fun t_ k_ => pre3 t_ (by
          refine XS.icmpYes X0.here hx rfl (pc0 := 5) (pc' := 15) rfl (hb hby dO_5) rfl (feq c5_4).2 (by decide) (by decide) ?_
          show Steps p.tables e below (s₁.setTop (mkF m 15 #[.val (.int p0), .val (.int p1), .val (.int p2), .val (.int p3), .val (.long q4), .second, .val (.long q5), .second, .val (.long q6), .second, .val (.long (0 : Int64)), .second] [])) _
          exact k_)
      exact ⟨(0 : Int64), (if_neg c5_4).symm, pre6⟩
  obtain ⟨t7, hv7, pre7⟩ : ∃ (t7 : Int64), (t7 = own_if t2 p2 p0 q5) ∧ ∀ t_, Steps p.tables e below (s₁.setTop (mkF m 27 #[.val (.int p0), .val (.int p1), .val (.int p2), .val (.int p3), .val (.long q4), .second, .val (.long q5), .second, .val (.long q6), .second, .val (.long t7), .second] [])) t_ → Steps p.tables e below (s₁.setTop (entryFrame m #[(.int p0), (.int p1), (.int p2), (.int p3), (.long q4), (.long q5), (.long q6)] 12)) t_ := by
    have pre8 : ∀ t_, Steps p.tables e below (s₁.setTop (mkF m 17 #[.val (.int p0), .val (.int p1), .val (.int p2), .val (.int p3), .val (.long q4), .second, .val (.long q5), .second, .val (.long q6), .second, .val (.long t2), .second] [(.int p0), (.int p2)])) t_ → Steps p.tables e below (s₁.setTop (entryFrame m #[(.int p0), (.int p1), (.int p2), (.int p3), (.long q4), (.long q5), (.long q6)] 12)) t_ := fun t_ k_ => pre2 t_ (by
        refine XS.iloadN X0.here hx rfl (hb hby dO_15) rfl ?_
        show Steps p.tables e below (s₁.setTop (mkF m 16 #[.val (.int p0), .val (.int p1), .val (.int p2), .val (.int p3), .val (.long q4), .second, .val (.long q5), .second, .val (.long q6), .second, .val (.long t2), .second] [(.int p2)])) _
        refine XS.iloadN X0.here hx rfl (hb hby dO_16) rfl ?_
        show Steps p.tables e below (s₁.setTop (mkF m 17 #[.val (.int p0), .val (.int p1), .val (.int p2), .val (.int p3), .val (.long q4), .second, .val (.long q5), .second, .val (.long q6), .second, .val (.long t2), .second] [(.int p0), (.int p2)])) _
        exact k_)
    by_cases c17_9 : p2 = p0
    · have pre10 : ∀ t_, Steps p.tables e below (s₁.setTop (mkF m 27 #[.val (.int p0), .val (.int p1), .val (.int p2), .val (.int p3), .val (.long q4), .second, .val (.long q5), .second, .val (.long q6), .second, .val (.long (t2 + q5)), .second] [])) t_ → Steps p.tables e below (s₁.setTop (entryFrame m #[(.int p0), (.int p1), (.int p2), (.int p3), (.long q4), (.long q5), (.long q6)] 12)) t_ := fun t_ k_ => pre8 t_ (by
          refine XS.icmpNo X0.here hx rfl (hb hby dO_17) rfl (teq c17_9).2 ?_
          show Steps p.tables e below (s₁.setTop (mkF m 20 #[.val (.int p0), .val (.int p1), .val (.int p2), .val (.int p3), .val (.long q4), .second, .val (.long q5), .second, .val (.long q6), .second, .val (.long t2), .second] [])) _
          refine XS.lload X0.here hx rfl (hb hby dO_20) rfl ?_
          show Steps p.tables e below (s₁.setTop (mkF m 22 #[.val (.int p0), .val (.int p1), .val (.int p2), .val (.int p3), .val (.long q4), .second, .val (.long q5), .second, .val (.long q6), .second, .val (.long t2), .second] [(.long t2)])) _
          refine XS.lload X0.here hx rfl (hb hby dO_22) rfl ?_
          show Steps p.tables e below (s₁.setTop (mkF m 24 #[.val (.int p0), .val (.int p1), .val (.int p2), .val (.int p3), .val (.long q4), .second, .val (.long q5), .second, .val (.long q6), .second, .val (.long t2), .second] [(.long q5), (.long t2)])) _
          refine XS.ladd X0.here hx rfl (hb hby dO_24) rfl ?_
          show Steps p.tables e below (s₁.setTop (mkF m 25 #[.val (.int p0), .val (.int p1), .val (.int p2), .val (.int p3), .val (.long q4), .second, .val (.long q5), .second, .val (.long q6), .second, .val (.long t2), .second] [(.long (t2 + q5))])) _
          refine XS.lstore X0.here hx rfl (hb hby dO_25) rfl (l' := #[.val (.int p0), .val (.int p1), .val (.int p2), .val (.int p3), .val (.long q4), .second, .val (.long q5), .second, .val (.long q6), .second, .val (.long (t2 + q5)), .second]) rfl ?_
          show Steps p.tables e below (s₁.setTop (mkF m 27 #[.val (.int p0), .val (.int p1), .val (.int p2), .val (.int p3), .val (.long q4), .second, .val (.long q5), .second, .val (.long q6), .second, .val (.long (t2 + q5)), .second] [])) _
          exact k_)
      exact ⟨(t2 + q5), (if_pos c17_9).symm, pre10⟩
    · have pre11 : ∀ t_, Steps p.tables e below (s₁.setTop (mkF m 27 #[.val (.int p0), .val (.int p1), .val (.int p2), .val (.int p3), .val (.long q4), .second, .val (.long q5), .second, .val (.long q6), .second, .val (.long t2), .second] [])) t_ → Steps p.tables e below (s₁.setTop (entryFrame m #[(.int p0), (.int p1), (.int p2), (.int p3), (.long q4), (.long q5), (.long q6)] 12)) t_ := fun t_ k_ => pre8 t_ (by
          refine XS.icmpYes X0.here hx rfl (pc0 := 17) (pc' := 27) rfl (hb hby dO_17) rfl (feq c17_9).2 (by decide) (by decide) ?_
          show Steps p.tables e below (s₁.setTop (mkF m 27 #[.val (.int p0), .val (.int p1), .val (.int p2), .val (.int p3), .val (.long q4), .second, .val (.long q5), .second, .val (.long q6), .second, .val (.long t2), .second] [])) _
          exact k_)
      exact ⟨t2, (if_neg c17_9).symm, pre11⟩
  obtain ⟨t12, hv12, pre12⟩ : ∃ (t12 : Int64), (t12 = own_if t7 p3 p0 q6) ∧ ∀ t_, Steps p.tables e below (s₁.setTop (mkF m 39 #[.val (.int p0), .val (.int p1), .val (.int p2), .val (.int p3), .val (.long q4), .second, .val (.long q5), .second, .val (.long q6), .second, .val (.long t12), .second] [])) t_ → Steps p.tables e below (s₁.setTop (entryFrame m #[(.int p0), (.int p1), (.int p2), (.int p3), (.long q4), (.long q5), (.long q6)] 12)) t_ := by
    have pre13 : ∀ t_, Steps p.tables e below (s₁.setTop (mkF m 29 #[.val (.int p0), .val (.int p1), .val (.int p2), .val (.int p3), .val (.long q4), .second, .val (.long q5), .second, .val (.long q6), .second, .val (.long t7), .second] [(.int p0), (.int p3)])) t_ → Steps p.tables e below (s₁.setTop (entryFrame m #[(.int p0), (.int p1), (.int p2), (.int p3), (.long q4), (.long q5), (.long q6)] 12)) t_ := fun t_ k_ => pre7 t_ (by
        refine XS.iloadN X0.here hx rfl (hb hby dO_27) rfl ?_
        show Steps p.tables e below (s₁.setTop (mkF m 28 #[.val (.int p0), .val (.int p1), .val (.int p2), .val (.int p3), .val (.long q4), .second, .val (.long q5), .second, .val (.long q6), .second, .val (.long t7), .second] [(.int p3)])) _
        refine XS.iloadN X0.here hx rfl (hb hby dO_28) rfl ?_
        show Steps p.tables e below (s₁.setTop (mkF m 29 #[.val (.int p0), .val (.int p1), .val (.int p2), .val (.int p3), .val (.long q4), .second, .val (.long q5), .second, .val (.long q6), .second, .val (.long t7), .second] [(.int p0), (.int p3)])) _
        exact k_)
    by_cases c29_14 : p3 = p0
    · have pre15 : ∀ t_, Steps p.tables e below (s₁.setTop (mkF m 39 #[.val (.int p0), .val (.int p1), .val (.int p2), .val (.int p3), .val (.long q4), .second, .val (.long q5), .second, .val (.long q6), .second, .val (.long (t7 + q6)), .second] [])) t_ → Steps p.tables e below (s₁.setTop (entryFrame m #[(.int p0), (.int p1), (.int p2), (.int p3), (.long q4), (.long q5), (.long q6)] 12)) t_ := fun t_ k_ => pre13 t_ (by
          refine XS.icmpNo X0.here hx rfl (hb hby dO_29) rfl (teq c29_14).2 ?_
          show Steps p.tables e below (s₁.setTop (mkF m 32 #[.val (.int p0), .val (.int p1), .val (.int p2), .val (.int p3), .val (.long q4), .second, .val (.long q5), .second, .val (.long q6), .second, .val (.long t7), .second] [])) _
          refine XS.lload X0.here hx rfl (hb hby dO_32) rfl ?_
          show Steps p.tables e below (s₁.setTop (mkF m 34 #[.val (.int p0), .val (.int p1), .val (.int p2), .val (.int p3), .val (.long q4), .second, .val (.long q5), .second, .val (.long q6), .second, .val (.long t7), .second] [(.long t7)])) _
          refine XS.lload X0.here hx rfl (hb hby dO_34) rfl ?_
          show Steps p.tables e below (s₁.setTop (mkF m 36 #[.val (.int p0), .val (.int p1), .val (.int p2), .val (.int p3), .val (.long q4), .second, .val (.long q5), .second, .val (.long q6), .second, .val (.long t7), .second] [(.long q6), (.long t7)])) _
          refine XS.ladd X0.here hx rfl (hb hby dO_36) rfl ?_
          show Steps p.tables e below (s₁.setTop (mkF m 37 #[.val (.int p0), .val (.int p1), .val (.int p2), .val (.int p3), .val (.long q4), .second, .val (.long q5), .second, .val (.long q6), .second, .val (.long t7), .second] [(.long (t7 + q6))])) _
          refine XS.lstore X0.here hx rfl (hb hby dO_37) rfl (l' := #[.val (.int p0), .val (.int p1), .val (.int p2), .val (.int p3), .val (.long q4), .second, .val (.long q5), .second, .val (.long q6), .second, .val (.long (t7 + q6)), .second]) rfl ?_
          show Steps p.tables e below (s₁.setTop (mkF m 39 #[.val (.int p0), .val (.int p1), .val (.int p2), .val (.int p3), .val (.long q4), .second, .val (.long q5), .second, .val (.long q6), .second, .val (.long (t7 + q6)), .second] [])) _
          exact k_)
      exact ⟨(t7 + q6), (if_pos c29_14).symm, pre15⟩
    · have pre16 : ∀ t_, Steps p.tables e below (s₁.setTop (mkF m 39 #[.val (.int p0), .val (.int p1), .val (.int p2), .val (.int p3), .val (.long q4), .second, .val (.long q5), .second, .val (.long q6), .second, .val (.long t7), .second] [])) t_ → Steps p.tables e below (s₁.setTop (entryFrame m #[(.int p0), (.int p1), (.int p2), (.int p3), (.long q4), (.long q5), (.long q6)] 12)) t_ := fun t_ k_ => pre13 t_ (by
          refine XS.icmpYes X0.here hx rfl (pc0 := 29) (pc' := 39) rfl (hb hby dO_29) rfl (feq c29_14).2 (by decide) (by decide) ?_
          show Steps p.tables e below (s₁.setTop (mkF m 39 #[.val (.int p0), .val (.int p1), .val (.int p2), .val (.int p3), .val (.long q4), .second, .val (.long q5), .second, .val (.long q6), .second, .val (.long t7), .second] [])) _
          exact k_)
      exact ⟨t7, (if_neg c29_14).symm, pre16⟩
  have pre17 : ∀ t_, Steps p.tables e below (s₁.setTop (mkF m 41 #[.val (.int p0), .val (.int p1), .val (.int p2), .val (.int p3), .val (.long q4), .second, .val (.long q5), .second, .val (.long q6), .second, .val (.long t12), .second] [(.long t12)])) t_ → Steps p.tables e below (s₁.setTop (entryFrame m #[(.int p0), (.int p1), (.int p2), (.int p3), (.long q4), (.long q5), (.long q6)] 12)) t_ := fun t_ k_ => pre12 t_ (by
      refine XS.lload X0.here hx rfl (hb hby dO_39) rfl ?_
      show Steps p.tables e below (s₁.setTop (mkF m 41 #[.val (.int p0), .val (.int p1), .val (.int p2), .val (.int p3), .val (.long q4), .second, .val (.long q5), .second, .val (.long q6), .second, .val (.long t12), .second] [(.long t12)])) _
      exact k_)
  obtain ⟨fs, hr, hrun, hended, hW, hsame⟩ := X0.leave (v := some (.long t12)) (fun h => by rw [Bd.returns] at h; cases h)
  refine ⟨_, _, pre17 _ ?_, hrun, hended, _, _, rfl, ?_, ⟨_, rfl⟩, hW, hsame.mono (by decide) (by decide)⟩
  · exact X0.lreturnOut hx Bd.returns (hb hby dO_41) hr
  · show QO Z p0 p1 p2 p3 q4 q5 q6 h0 n0 _ s₁.heap _
    rw [e0]
    exact ⟨by rw [hv12, hv7, hv2], N0, rfl⟩
theorem pd0_0 : parseMethodDescriptor "()V" = some ⟨[], none⟩ := by decide +kernel
theorem pd0_1 : parseMethodDescriptor "()I" = some ⟨[], some .int⟩ := by decide +kernel
theorem pd0_2 : parseMethodDescriptor "(IIJ)V" = some ⟨[.int, .int, .long], none⟩ := by decide +kernel
theorem pd0_3 : parseMethodDescriptor "(IIIIJJJ)J" = some ⟨[.int, .int, .int, .int, .long, .long, .long], some .long⟩ := by decide +kernel
theorem pd0_4 : parseMethodDescriptor "(JJ)J" = some ⟨[.long, .long], some .long⟩ := by decide +kernel
theorem pd0_5 : parseMethodDescriptor "(II)J" = some ⟨[.int, .int], some .long⟩ := by decide +kernel
theorem pn0 : plainName "com/example/headwater/headwater/headdriven/EventCountsMostExceptPinLaw" = true := by first | (simp [plainName, overriddenIn]; done) | decide +kernel
theorem ef0 (m : MethodId) (o1 : Int32) (o2 : Int32) (o3 : Int32) (u1 : Int64) (u2 : Int64) (u3 : Int64) : entryFrame m #[(.int o1), (.int o2), (.int o3), (.long u1), (.long u2), (.long u3)] maxLocals = mkF m 0 #[.val (.int o1), .val (.int o2), .val (.int o3), .val (.long u1), .second, .val (.long u2), .second, .val (.long u3), .second, .unset, .unset, .unset, .unset, .unset, .unset, .unset, .unset, .unset, .unset, .unset, .unset, .unset, .unset, .unset] [] := by first | (simp [entryFrame, mkF, argsToLocals, Value.category, maxLocals]; done) | rfl
def Q0 (Z : State) (o1 o2 o3 : Int32) (u1 u2 u3 : Int64) (h0 : Heap) (n0 : Nat) (v : Option Value) (h : Heap) (L : List Loc) : Prop := v = some (.int 1) ∧ Fr n0 L
set_option maxRecDepth 65536 in
set_option maxHeartbeats 40000000 in
theorem rm0 (l : Launch) (Z : State) (a0 : Array Value) (hw : ∀ d ∈ tables_1, d.before a0 Z = true) (ws : List Jvm.Cond) (o1 o2 o3 : Int32) (u1 u2 u3 : Int64) (h0 : Heap) (n0 : Nat) (Z0 : n0 ≤ h0.size) :
    MetFree l x (head1 (Jvm.Cond.code x code maxLocals ret :: ws) room_1) (fun a U => a = #[(.int o1), (.int o2), (.int o3), (.long u1), (.long u2), (.long u3)] ∧ Z.Warmed39 U.vm ∧ U.heap = h0) (fun _ _ _ _ _ => True) (fun _ U o U' => ∃ v L, o = .returned v ∧ Q0 Z o1 o2 o3 u1 u2 u3 h0 n0 v U'.heap L ∧ FrameEnd U o U' L room_1.cells room_1.slots) := by
  refine MetFree.of_bodySF (plainFor_of_name pn0) hisR ?_
  intro p e s m args below meth c s₁ Bd hml0 hP hK
  obtain ⟨rfl, hZ, hh⟩ := hP
  have hx := Bd.exec
  have hby := Bd.bytes
  have hml : c.maxLocals = 24 := hml0
  have hown : s.vm.findClass "com/example/headwater/headwater/headdriven/EventCountsMostExceptPinLaw" = some m.cls := findClass_of_methodNamed Bd.named
  have hnm := (name_of_methodNamed Bd.named Bd.method).1
  have X0 : Stand p l e room_1 s m #[(.int o1), (.int o2), (.int o3), (.long u1), (.long u2), (.long u3)] below meth c s₁ [] 0 0 := Stand.of_body Bd
  have e0 : s₁.heap = h0 := by rw [← hh, Bd.state]; rfl
  have N0 := Fr.nil n0
  have pre0 : ∀ t, Steps p.tables e below (s₁.setTop (mkF m 0 #[.val (.int o1), .val (.int o2), .val (.int o3), .val (.long u1), .second, .val (.long u2), .second, .val (.long u3), .second, .unset, .unset, .unset, .unset, .unset, .unset, .unset, .unset, .unset, .unset, .unset, .unset, .unset, .unset, .unset] [])) t → Steps p.tables e below (s₁.setTop (entryFrame m #[(.int o1), (.int o2), (.int o3), (.long u1), (.long u2), (.long u3)] maxLocals)) t := fun t k => castTop (ef0 m o1 o2 o3 u1 u2 u3) k
  have pre1 : ∀ t_, Steps p.tables e below (s₁.setTop (mkF m 7 #[.val (.int o1), .val (.int o2), .val (.int o3), .val (.long u1), .second, .val (.long u2), .second, .val (.long u3), .second, .val (.long (u1 &&& (1152921504606846975 : Int64))), .second, .unset, .unset, .unset, .unset, .unset, .unset, .unset, .unset, .unset, .unset, .unset, .unset, .unset] [])) t_ → Steps p.tables e below (s₁.setTop (entryFrame m #[(.int o1), (.int o2), (.int o3), (.long u1), (.long u2), (.long u3)] maxLocals)) t_ := fun t_ k_ => pre0 t_ (by
      refine XS.lloadN X0.here hx rfl (hb hby at_0) rfl ?_
      show Steps p.tables e below (s₁.setTop (mkF m 1 #[.val (.int o1), .val (.int o2), .val (.int o3), .val (.long u1), .second, .val (.long u2), .second, .val (.long u3), .second, .unset, .unset, .unset, .unset, .unset, .unset, .unset, .unset, .unset, .unset, .unset, .unset, .unset, .unset, .unset] [(.long u1)])) _
      refine X0.ldc2Long hx hown (mvT hZ (hw _ (List.mem_of_getElem? (i := 0) rfl))) (g := (mkF m 1 #[.val (.int o1), .val (.int o2), .val (.int o3), .val (.long u1), .second, .val (.long u2), .second, .val (.long u3), .second, .unset, .unset, .unset, .unset, .unset, .unset, .unset, .unset, .unset, .unset, .unset, .unset, .unset, .unset, .unset] [(.long u1)])) rfl (hb hby at_1) _ ?_
      show Steps p.tables e below (s₁.setTop (mkF m 4 #[.val (.int o1), .val (.int o2), .val (.int o3), .val (.long u1), .second, .val (.long u2), .second, .val (.long u3), .second, .unset, .unset, .unset, .unset, .unset, .unset, .unset, .unset, .unset, .unset, .unset, .unset, .unset, .unset, .unset] [(.long (1152921504606846975 : Int64)), (.long u1)])) _
      refine XS.land X0.here hx rfl (hb hby at_4) rfl ?_
      show Steps p.tables e below (s₁.setTop (mkF m 5 #[.val (.int o1), .val (.int o2), .val (.int o3), .val (.long u1), .second, .val (.long u2), .second, .val (.long u3), .second, .unset, .unset, .unset, .unset, .unset, .unset, .unset, .unset, .unset, .unset, .unset, .unset, .unset, .unset, .unset] [(.long (u1 &&& (1152921504606846975 : Int64)))])) _
      refine XS.lstore X0.here hx rfl (hb hby at_5) rfl (l' := #[.val (.int o1), .val (.int o2), .val (.int o3), .val (.long u1), .second, .val (.long u2), .second, .val (.long u3), .second, .val (.long (u1 &&& (1152921504606846975 : Int64))), .second, .unset, .unset, .unset, .unset, .unset, .unset, .unset, .unset, .unset, .unset, .unset, .unset, .unset]) rfl ?_
      show Steps p.tables e below (s₁.setTop (mkF m 7 #[.val (.int o1), .val (.int o2), .val (.int o3), .val (.long u1), .second, .val (.long u2), .second, .val (.long u3), .second, .val (.long (u1 &&& (1152921504606846975 : Int64))), .second, .unset, .unset, .unset, .unset, .unset, .unset, .unset, .unset, .unset, .unset, .unset, .unset, .unset] [])) _
      exact k_)
  obtain ⟨k1, e_k1⟩ : ∃ z : Int64, z = (u1 &&& (1152921504606846975 : Int64)) := ⟨_, rfl⟩
  have pre2 : ∀ t_, Steps p.tables e below (s₁.setTop (mkF m 7 #[.val (.int o1), .val (.int o2), .val (.int o3), .val (.long u1), .second, .val (.long u2), .second, .val (.long u3), .second, .val (.long k1), .second, .unset, .unset, .unset, .unset, .unset, .unset, .unset, .unset, .unset, .unset, .unset, .unset, .unset] [])) t_ → Steps p.tables e below (s₁.setTop (entryFrame m #[(.int o1), (.int o2), (.int o3), (.long u1), (.long u2), (.long u3)] maxLocals)) t_ := by subst e_k1; exact pre1
  have pre3 : ∀ t_, Steps p.tables e below (s₁.setTop (mkF m 15 #[.val (.int o1), .val (.int o2), .val (.int o3), .val (.long u1), .second, .val (.long u2), .second, .val (.long u3), .second, .val (.long k1), .second, .val (.long (u2 &&& (1152921504606846975 : Int64))), .second, .unset, .unset, .unset, .unset, .unset, .unset, .unset, .unset, .unset, .unset, .unset] [])) t_ → Steps p.tables e below (s₁.setTop (entryFrame m #[(.int o1), (.int o2), (.int o3), (.long u1), (.long u2), (.long u3)] maxLocals)) t_ := fun t_ k_ => pre2 t_ (by
      refine XS.lload X0.here hx rfl (hb hby at_7) rfl ?_
      show Steps p.tables e below (s₁.setTop (mkF m 9 #[.val (.int o1), .val (.int o2), .val (.int o3), .val (.long u1), .second, .val (.long u2), .second, .val (.long u3), .second, .val (.long k1), .second, .unset, .unset, .unset, .unset, .unset, .unset, .unset, .unset, .unset, .unset, .unset, .unset, .unset] [(.long u2)])) _
      refine X0.ldc2Long hx hown (mvT hZ (hw _ (List.mem_of_getElem? (i := 0) rfl))) (g := (mkF m 9 #[.val (.int o1), .val (.int o2), .val (.int o3), .val (.long u1), .second, .val (.long u2), .second, .val (.long u3), .second, .val (.long k1), .second, .unset, .unset, .unset, .unset, .unset, .unset, .unset, .unset, .unset, .unset, .unset, .unset, .unset] [(.long u2)])) rfl (hb hby at_9) _ ?_
      show Steps p.tables e below (s₁.setTop (mkF m 12 #[.val (.int o1), .val (.int o2), .val (.int o3), .val (.long u1), .second, .val (.long u2), .second, .val (.long u3), .second, .val (.long k1), .second, .unset, .unset, .unset, .unset, .unset, .unset, .unset, .unset, .unset, .unset, .unset, .unset, .unset] [(.long (1152921504606846975 : Int64)), (.long u2)])) _
      refine XS.land X0.here hx rfl (hb hby at_12) rfl ?_
      show Steps p.tables e below (s₁.setTop (mkF m 13 #[.val (.int o1), .val (.int o2), .val (.int o3), .val (.long u1), .second, .val (.long u2), .second, .val (.long u3), .second, .val (.long k1), .second, .unset, .unset, .unset, .unset, .unset, .unset, .unset, .unset, .unset, .unset, .unset, .unset, .unset] [(.long (u2 &&& (1152921504606846975 : Int64)))])) _
      refine XS.lstore X0.here hx rfl (hb hby at_13) rfl (l' := #[.val (.int o1), .val (.int o2), .val (.int o3), .val (.long u1), .second, .val (.long u2), .second, .val (.long u3), .second, .val (.long k1), .second, .val (.long (u2 &&& (1152921504606846975 : Int64))), .second, .unset, .unset, .unset, .unset, .unset, .unset, .unset, .unset, .unset, .unset, .unset]) rfl ?_
      show Steps p.tables e below (s₁.setTop (mkF m 15 #[.val (.int o1), .val (.int o2), .val (.int o3), .val (.long u1), .second, .val (.long u2), .second, .val (.long u3), .second, .val (.long k1), .second, .val (.long (u2 &&& (1152921504606846975 : Int64))), .second, .unset, .unset, .unset, .unset, .unset, .unset, .unset, .unset, .unset, .unset, .unset] [])) _
      exact k_)
  obtain ⟨k2, e_k2⟩ : ∃ z : Int64, z = (u2 &&& (1152921504606846975 : Int64)) := ⟨_, rfl⟩
  have pre4 : ∀ t_, Steps p.tables e below (s₁.setTop (mkF m 15 #[.val (.int o1), .val (.int o2), .val (.int o3), .val (.long u1), .second, .val (.long u2), .second, .val (.long u3), .second, .val (.long k1), .second, .val (.long k2), .second, .unset, .unset, .unset, .unset, .unset, .unset, .unset, .unset, .unset, .unset, .unset] [])) t_ → Steps p.tables e below (s₁.setTop (entryFrame m #[(.int o1), (.int o2), (.int o3), (.long u1), (.long u2), (.long u3)] maxLocals)) t_ := by subst e_k2; exact pre3
  have pre5 : ∀ t_, Steps p.tables e below (s₁.setTop (mkF m 23 #[.val (.int o1), .val (.int o2), .val (.int o3), .val (.long u1), .second, .val (.long u2), .second, .val (.long u3), .second, .val (.long k1), .second, .val (.long k2), .second, .val (.long (u3 &&& (1152921504606846975 : Int64))), .second, .unset, .unset, .unset, .unset, .unset, .unset, .unset, .unset, .unset] [])) t_ → Steps p.tables e below (s₁.setTop (entryFrame m #[(.int o1), (.int o2), (.int o3), (.long u1), (.long u2), (.long u3)] maxLocals)) t_ := fun t_ k_ => pre4 t_ (by
      refine XS.lload X0.here hx rfl (hb hby at_15) rfl ?_
      show Steps p.tables e below (s₁.setTop (mkF m 17 #[.val (.int o1), .val (.int o2), .val (.int o3), .val (.long u1), .second, .val (.long u2), .second, .val (.long u3), .second, .val (.long k1), .second, .val (.long k2), .second, .unset, .unset, .unset, .unset, .unset, .unset, .unset, .unset, .unset, .unset, .unset] [(.long u3)])) _
      refine X0.ldc2Long hx hown (mvT hZ (hw _ (List.mem_of_getElem? (i := 0) rfl))) (g := (mkF m 17 #[.val (.int o1), .val (.int o2), .val (.int o3), .val (.long u1), .second, .val (.long u2), .second, .val (.long u3), .second, .val (.long k1), .second, .val (.long k2), .second, .unset, .unset, .unset, .unset, .unset, .unset, .unset, .unset, .unset, .unset, .unset] [(.long u3)])) rfl (hb hby at_17) _ ?_
      show Steps p.tables e below (s₁.setTop (mkF m 20 #[.val (.int o1), .val (.int o2), .val (.int o3), .val (.long u1), .second, .val (.long u2), .second, .val (.long u3), .second, .val (.long k1), .second, .val (.long k2), .second, .unset, .unset, .unset, .unset, .unset, .unset, .unset, .unset, .unset, .unset, .unset] [(.long (1152921504606846975 : Int64)), (.long u3)])) _
      refine XS.land X0.here hx rfl (hb hby at_20) rfl ?_
      show Steps p.tables e below (s₁.setTop (mkF m 21 #[.val (.int o1), .val (.int o2), .val (.int o3), .val (.long u1), .second, .val (.long u2), .second, .val (.long u3), .second, .val (.long k1), .second, .val (.long k2), .second, .unset, .unset, .unset, .unset, .unset, .unset, .unset, .unset, .unset, .unset, .unset] [(.long (u3 &&& (1152921504606846975 : Int64)))])) _
      refine XS.lstore X0.here hx rfl (hb hby at_21) rfl (l' := #[.val (.int o1), .val (.int o2), .val (.int o3), .val (.long u1), .second, .val (.long u2), .second, .val (.long u3), .second, .val (.long k1), .second, .val (.long k2), .second, .val (.long (u3 &&& (1152921504606846975 : Int64))), .second, .unset, .unset, .unset, .unset, .unset, .unset, .unset, .unset, .unset]) rfl ?_
      show Steps p.tables e below (s₁.setTop (mkF m 23 #[.val (.int o1), .val (.int o2), .val (.int o3), .val (.long u1), .second, .val (.long u2), .second, .val (.long u3), .second, .val (.long k1), .second, .val (.long k2), .second, .val (.long (u3 &&& (1152921504606846975 : Int64))), .second, .unset, .unset, .unset, .unset, .unset, .unset, .unset, .unset, .unset] [])) _
      exact k_)
  obtain ⟨k3, e_k3⟩ : ∃ z : Int64, z = (u3 &&& (1152921504606846975 : Int64)) := ⟨_, rfl⟩
  have pre6 : ∀ t_, Steps p.tables e below (s₁.setTop (mkF m 23 #[.val (.int o1), .val (.int o2), .val (.int o3), .val (.long u1), .second, .val (.long u2), .second, .val (.long u3), .second, .val (.long k1), .second, .val (.long k2), .second, .val (.long k3), .second, .unset, .unset, .unset, .unset, .unset, .unset, .unset, .unset, .unset] [])) t_ → Steps p.tables e below (s₁.setTop (entryFrame m #[(.int o1), (.int o2), (.int o3), (.long u1), (.long u2), (.long u3)] maxLocals)) t_ := by subst e_k3; exact pre5
  have r1 : own_R k1 := by rw [e_k1]; exact own_m60 _
  have r2 : own_R k2 := by rw [e_k2]; exact own_m60 _
  have r3 : own_R k3 := by rw [e_k3]; exact own_m60 _
  have pre7 : ∀ t_, Steps p.tables e below (s₁.setTop (mkF m 35 #[.val (.int o1), .val (.int o2), .val (.int o3), .val (.long u1), .second, .val (.long u2), .second, .val (.long u3), .second, .val (.long k1), .second, .val (.long k2), .second, .val (.long k3), .second, .val (.int ((((u3.toUInt64 >>> ((60 : Int32) &&& 0x3f).toInt64.toUInt64).toInt64) &&& (3 : Int64)).toInt32)), .unset, .unset, .unset, .unset, .unset, .unset, .unset, .unset] [])) t_ → Steps p.tables e below (s₁.setTop (entryFrame m #[(.int o1), (.int o2), (.int o3), (.long u1), (.long u2), (.long u3)] maxLocals)) t_ := fun t_ k_ => pre6 t_ (by
      refine XS.lload X0.here hx rfl (hb hby at_23) rfl ?_
      show Steps p.tables e below (s₁.setTop (mkF m 25 #[.val (.int o1), .val (.int o2), .val (.int o3), .val (.long u1), .second, .val (.long u2), .second, .val (.long u3), .second, .val (.long k1), .second, .val (.long k2), .second, .val (.long k3), .second, .unset, .unset, .unset, .unset, .unset, .unset, .unset, .unset, .unset] [(.long u3)])) _
      refine XS.bipush X0.here hx rfl (hb hby at_25) ?_
      show Steps p.tables e below (s₁.setTop (mkF m 27 #[.val (.int o1), .val (.int o2), .val (.int o3), .val (.long u1), .second, .val (.long u2), .second, .val (.long u3), .second, .val (.long k1), .second, .val (.long k2), .second, .val (.long k3), .second, .unset, .unset, .unset, .unset, .unset, .unset, .unset, .unset, .unset] [(.int (60 : Int32)), (.long u3)])) _
      refine XS.lushr X0.here hx rfl (hb hby at_27) rfl ?_
      show Steps p.tables e below (s₁.setTop (mkF m 28 #[.val (.int o1), .val (.int o2), .val (.int o3), .val (.long u1), .second, .val (.long u2), .second, .val (.long u3), .second, .val (.long k1), .second, .val (.long k2), .second, .val (.long k3), .second, .unset, .unset, .unset, .unset, .unset, .unset, .unset, .unset, .unset] [(.long ((u3.toUInt64 >>> ((60 : Int32) &&& 0x3f).toInt64.toUInt64).toInt64))])) _
      refine X0.ldc2Long hx hown (mvT hZ (hw _ (List.mem_of_getElem? (i := 1) rfl))) (g := (mkF m 28 #[.val (.int o1), .val (.int o2), .val (.int o3), .val (.long u1), .second, .val (.long u2), .second, .val (.long u3), .second, .val (.long k1), .second, .val (.long k2), .second, .val (.long k3), .second, .unset, .unset, .unset, .unset, .unset, .unset, .unset, .unset, .unset] [(.long ((u3.toUInt64 >>> ((60 : Int32) &&& 0x3f).toInt64.toUInt64).toInt64))])) rfl (hb hby at_28) _ ?_
      show Steps p.tables e below (s₁.setTop (mkF m 31 #[.val (.int o1), .val (.int o2), .val (.int o3), .val (.long u1), .second, .val (.long u2), .second, .val (.long u3), .second, .val (.long k1), .second, .val (.long k2), .second, .val (.long k3), .second, .unset, .unset, .unset, .unset, .unset, .unset, .unset, .unset, .unset] [(.long (3 : Int64)), (.long ((u3.toUInt64 >>> ((60 : Int32) &&& 0x3f).toInt64.toUInt64).toInt64))])) _
      refine XS.land X0.here hx rfl (hb hby at_31) rfl ?_
      show Steps p.tables e below (s₁.setTop (mkF m 32 #[.val (.int o1), .val (.int o2), .val (.int o3), .val (.long u1), .second, .val (.long u2), .second, .val (.long u3), .second, .val (.long k1), .second, .val (.long k2), .second, .val (.long k3), .second, .unset, .unset, .unset, .unset, .unset, .unset, .unset, .unset, .unset] [(.long (((u3.toUInt64 >>> ((60 : Int32) &&& 0x3f).toInt64.toUInt64).toInt64) &&& (3 : Int64)))])) _
      refine XS.l2i X0.here hx rfl (hb hby at_32) rfl ?_
      show Steps p.tables e below (s₁.setTop (mkF m 33 #[.val (.int o1), .val (.int o2), .val (.int o3), .val (.long u1), .second, .val (.long u2), .second, .val (.long u3), .second, .val (.long k1), .second, .val (.long k2), .second, .val (.long k3), .second, .unset, .unset, .unset, .unset, .unset, .unset, .unset, .unset, .unset] [(.int ((((u3.toUInt64 >>> ((60 : Int32) &&& 0x3f).toInt64.toUInt64).toInt64) &&& (3 : Int64)).toInt32))])) _
      refine XS.istore X0.here hx rfl (hb hby at_33) rfl (l' := #[.val (.int o1), .val (.int o2), .val (.int o3), .val (.long u1), .second, .val (.long u2), .second, .val (.long u3), .second, .val (.long k1), .second, .val (.long k2), .second, .val (.long k3), .second, .val (.int ((((u3.toUInt64 >>> ((60 : Int32) &&& 0x3f).toInt64.toUInt64).toInt64) &&& (3 : Int64)).toInt32)), .unset, .unset, .unset, .unset, .unset, .unset, .unset, .unset]) rfl ?_
      show Steps p.tables e below (s₁.setTop (mkF m 35 #[.val (.int o1), .val (.int o2), .val (.int o3), .val (.long u1), .second, .val (.long u2), .second, .val (.long u3), .second, .val (.long k1), .second, .val (.long k2), .second, .val (.long k3), .second, .val (.int ((((u3.toUInt64 >>> ((60 : Int32) &&& 0x3f).toInt64.toUInt64).toInt64) &&& (3 : Int64)).toInt32)), .unset, .unset, .unset, .unset, .unset, .unset, .unset, .unset] [])) _
      exact k_)
  obtain ⟨se, e_se⟩ : ∃ z : Int32, z = ((((u3.toUInt64 >>> ((60 : Int32) &&& 0x3f).toInt64.toUInt64).toInt64) &&& (3 : Int64)).toInt32) := ⟨_, rfl⟩
  have pre8 : ∀ t_, Steps p.tables e below (s₁.setTop (mkF m 35 #[.val (.int o1), .val (.int o2), .val (.int o3), .val (.long u1), .second, .val (.long u2), .second, .val (.long u3), .second, .val (.long k1), .second, .val (.long k2), .second, .val (.long k3), .second, .val (.int se), .unset, .unset, .unset, .unset, .unset, .unset, .unset, .unset] [])) t_ → Steps p.tables e below (s₁.setTop (entryFrame m #[(.int o1), (.int o2), (.int o3), (.long u1), (.long u2), (.long u3)] maxLocals)) t_ := by subst e_se; exact pre7
  obtain ⟨pb9, hv9, pre9⟩ : ∃ (pb9 : Int32), (True) ∧ ∀ t_, Steps p.tables e below (s₁.setTop (mkF m 52 #[.val (.int o1), .val (.int o2), .val (.int o3), .val (.long u1), .second, .val (.long u2), .second, .val (.long u3), .second, .val (.long k1), .second, .val (.long k2), .second, .val (.long k3), .second, .val (.int se), .unset, .unset, .unset, .unset, .unset, .unset, .unset, .unset] [(.int pb9)])) t_ → Steps p.tables e below (s₁.setTop (entryFrame m #[(.int o1), (.int o2), (.int o3), (.long u1), (.long u2), (.long u3)] maxLocals)) t_ := by
    have pre10 : ∀ t_, Steps p.tables e below (s₁.setTop (mkF m 44 #[.val (.int o1), .val (.int o2), .val (.int o3), .val (.long u1), .second, .val (.long u2), .second, .val (.long u3), .second, .val (.long k1), .second, .val (.long k2), .second, .val (.long k3), .second, .val (.int se), .unset, .unset, .unset, .unset, .unset, .unset, .unset, .unset] [(.int (lcmpW (((u3.toUInt64 >>> ((62 : Int32) &&& 0x3f).toInt64.toUInt64).toInt64) &&& (1 : Int64)) (0 : Int64)))])) t_ → Steps p.tables e below (s₁.setTop (entryFrame m #[(.int o1), (.int o2), (.int o3), (.long u1), (.long u2), (.long u3)] maxLocals)) t_ := fun t_ k_ => pre8 t_ (by
        refine XS.lload X0.here hx rfl (hb hby at_35) rfl ?_
        show Steps p.tables e below (s₁.setTop (mkF m 37 #[.val (.int o1), .val (.int o2), .val (.int o3), .val (.long u1), .second, .val (.long u2), .second, .val (.long u3), .second, .val (.long k1), .second, .val (.long k2), .second, .val (.long k3), .second, .val (.int se), .unset, .unset, .unset, .unset, .unset, .unset, .unset, .unset] [(.long u3)])) _
        refine XS.bipush X0.here hx rfl (hb hby at_37) ?_
        show Steps p.tables e below (s₁.setTop (mkF m 39 #[.val (.int o1), .val (.int o2), .val (.int o3), .val (.long u1), .second, .val (.long u2), .second, .val (.long u3), .second, .val (.long k1), .second, .val (.long k2), .second, .val (.long k3), .second, .val (.int se), .unset, .unset, .unset, .unset, .unset, .unset, .unset, .unset] [(.int (62 : Int32)), (.long u3)])) _
        refine XS.lushr X0.here hx rfl (hb hby at_39) rfl ?_
        show Steps p.tables e below (s₁.setTop (mkF m 40 #[.val (.int o1), .val (.int o2), .val (.int o3), .val (.long u1), .second, .val (.long u2), .second, .val (.long u3), .second, .val (.long k1), .second, .val (.long k2), .second, .val (.long k3), .second, .val (.int se), .unset, .unset, .unset, .unset, .unset, .unset, .unset, .unset] [(.long ((u3.toUInt64 >>> ((62 : Int32) &&& 0x3f).toInt64.toUInt64).toInt64))])) _
        refine XS.lconst X0.here hx rfl (hb hby at_40) ?_
        show Steps p.tables e below (s₁.setTop (mkF m 41 #[.val (.int o1), .val (.int o2), .val (.int o3), .val (.long u1), .second, .val (.long u2), .second, .val (.long u3), .second, .val (.long k1), .second, .val (.long k2), .second, .val (.long k3), .second, .val (.int se), .unset, .unset, .unset, .unset, .unset, .unset, .unset, .unset] [(.long (1 : Int64)), (.long ((u3.toUInt64 >>> ((62 : Int32) &&& 0x3f).toInt64.toUInt64).toInt64))])) _
        refine XS.land X0.here hx rfl (hb hby at_41) rfl ?_
        show Steps p.tables e below (s₁.setTop (mkF m 42 #[.val (.int o1), .val (.int o2), .val (.int o3), .val (.long u1), .second, .val (.long u2), .second, .val (.long u3), .second, .val (.long k1), .second, .val (.long k2), .second, .val (.long k3), .second, .val (.int se), .unset, .unset, .unset, .unset, .unset, .unset, .unset, .unset] [(.long (((u3.toUInt64 >>> ((62 : Int32) &&& 0x3f).toInt64.toUInt64).toInt64) &&& (1 : Int64)))])) _
        refine XS.lconst X0.here hx rfl (hb hby at_42) ?_
        show Steps p.tables e below (s₁.setTop (mkF m 43 #[.val (.int o1), .val (.int o2), .val (.int o3), .val (.long u1), .second, .val (.long u2), .second, .val (.long u3), .second, .val (.long k1), .second, .val (.long k2), .second, .val (.long k3), .second, .val (.int se), .unset, .unset, .unset, .unset, .unset, .unset, .unset, .unset] [(.long (0 : Int64)), (.long (((u3.toUInt64 >>> ((62 : Int32) &&& 0x3f).toInt64.toUInt64).toInt64) &&& (1 : Int64)))])) _
        refine XS.lcmp X0.here hx rfl (hb hby at_43) rfl ?_
        show Steps p.tables e below (s₁.setTop (mkF m 44 #[.val (.int o1), .val (.int o2), .val (.int o3), .val (.long u1), .second, .val (.long u2), .second, .val (.long u3), .second, .val (.long k1), .second, .val (.long k2), .second, .val (.long k3), .second, .val (.int se), .unset, .unset, .unset, .unset, .unset, .unset, .unset, .unset] [(.int (lcmpW (((u3.toUInt64 >>> ((62 : Int32) &&& 0x3f).toInt64.toUInt64).toInt64) &&& (1 : Int64)) (0 : Int64)))])) _
        exact k_)
    by_cases c44_11 : (lcmpW (((u3.toUInt64 >>> ((62 : Int32) &&& 0x3f).toInt64.toUInt64).toInt64) &&& (1 : Int64)) (0 : Int64)) = (0 : Int32)
    · have pre12 : ∀ t_, Steps p.tables e below (s₁.setTop (mkF m 52 #[.val (.int o1), .val (.int o2), .val (.int o3), .val (.long u1), .second, .val (.long u2), .second, .val (.long u3), .second, .val (.long k1), .second, .val (.long k2), .second, .val (.long k3), .second, .val (.int se), .unset, .unset, .unset, .unset, .unset, .unset, .unset, .unset] [(.int o2)])) t_ → Steps p.tables e below (s₁.setTop (entryFrame m #[(.int o1), (.int o2), (.int o3), (.long u1), (.long u2), (.long u3)] maxLocals)) t_ := fun t_ k_ => pre10 t_ (by
          refine XS.ifYes X0.here hx rfl (pc0 := 44) (pc' := 51) rfl (hb hby at_44) rfl ((if0 _ _).trans (teq c44_11).1) (by decide) (by decide) ?_
          show Steps p.tables e below (s₁.setTop (mkF m 51 #[.val (.int o1), .val (.int o2), .val (.int o3), .val (.long u1), .second, .val (.long u2), .second, .val (.long u3), .second, .val (.long k1), .second, .val (.long k2), .second, .val (.long k3), .second, .val (.int se), .unset, .unset, .unset, .unset, .unset, .unset, .unset, .unset] [])) _
          refine XS.iloadN X0.here hx rfl (hb hby at_51) rfl ?_
          show Steps p.tables e below (s₁.setTop (mkF m 52 #[.val (.int o1), .val (.int o2), .val (.int o3), .val (.long u1), .second, .val (.long u2), .second, .val (.long u3), .second, .val (.long k1), .second, .val (.long k2), .second, .val (.long k3), .second, .val (.int se), .unset, .unset, .unset, .unset, .unset, .unset, .unset, .unset] [(.int o2)])) _
          exact k_)
      exact ⟨o2, trivial, pre12⟩
    · have pre13 : ∀ t_, Steps p.tables e below (s₁.setTop (mkF m 52 #[.val (.int o1), .val (.int o2), .val (.int o3), .val (.long u1), .second, .val (.long u2), .second, .val (.long u3), .second, .val (.long k1), .second, .val (.long k2), .second, .val (.long k3), .second, .val (.int se), .unset, .unset, .unset, .unset, .unset, .unset, .unset, .unset] [(.int o1)])) t_ → Steps p.tables e below (s₁.setTop (entryFrame m #[(.int o1), (.int o2), (.int o3), (.long u1), (.long u2), (.long u3)] maxLocals)) t_ := fun t_ k_ => pre10 t_ (by
          refine XS.ifNo X0.here hx rfl (hb hby at_44) rfl ((if0 _ _).trans (feq c44_11).1) ?_
          show Steps p.tables e below (s₁.setTop (mkF m 47 #[.val (.int o1), .val (.int o2), .val (.int o3), .val (.long u1), .second, .val (.long u2), .second, .val (.long u3), .second, .val (.long k1), .second, .val (.long k2), .second, .val (.long k3), .second, .val (.int se), .unset, .unset, .unset, .unset, .unset, .unset, .unset, .unset] [])) _
          refine XS.iloadN X0.here hx rfl (hb hby at_47) rfl ?_
          show Steps p.tables e below (s₁.setTop (mkF m 48 #[.val (.int o1), .val (.int o2), .val (.int o3), .val (.long u1), .second, .val (.long u2), .second, .val (.long u3), .second, .val (.long k1), .second, .val (.long k2), .second, .val (.long k3), .second, .val (.int se), .unset, .unset, .unset, .unset, .unset, .unset, .unset, .unset] [(.int o1)])) _
          refine XS.goto X0.here hx rfl (pc0 := 48) (pc' := 52) rfl (hb hby at_48) (by decide) (by decide) ?_
          show Steps p.tables e below (s₁.setTop (mkF m 52 #[.val (.int o1), .val (.int o2), .val (.int o3), .val (.long u1), .second, .val (.long u2), .second, .val (.long u3), .second, .val (.long k1), .second, .val (.long k2), .second, .val (.long k3), .second, .val (.int se), .unset, .unset, .unset, .unset, .unset, .unset, .unset, .unset] [(.int o1)])) _
          exact k_)
      exact ⟨o1, trivial, pre13⟩
  have pre14 : ∀ t_, Steps p.tables e below (s₁.setTop (mkF m 54 #[.val (.int o1), .val (.int o2), .val (.int o3), .val (.long u1), .second, .val (.long u2), .second, .val (.long u3), .second, .val (.long k1), .second, .val (.long k2), .second, .val (.long k3), .second, .val (.int se), .val (.int pb9), .unset, .unset, .unset, .unset, .unset, .unset, .unset] [])) t_ → Steps p.tables e below (s₁.setTop (entryFrame m #[(.int o1), (.int o2), (.int o3), (.long u1), (.long u2), (.long u3)] maxLocals)) t_ := fun t_ k_ => pre9 t_ (by
      refine XS.istore X0.here hx rfl (hb hby at_52) rfl (l' := #[.val (.int o1), .val (.int o2), .val (.int o3), .val (.long u1), .second, .val (.long u2), .second, .val (.long u3), .second, .val (.long k1), .second, .val (.long k2), .second, .val (.long k3), .second, .val (.int se), .val (.int pb9), .unset, .unset, .unset, .unset, .unset, .unset, .unset]) rfl ?_
      show Steps p.tables e below (s₁.setTop (mkF m 54 #[.val (.int o1), .val (.int o2), .val (.int o3), .val (.long u1), .second, .val (.long u2), .second, .val (.long u3), .second, .val (.long k1), .second, .val (.long k2), .second, .val (.long k3), .second, .val (.int se), .val (.int pb9), .unset, .unset, .unset, .unset, .unset, .unset, .unset] [])) _
      exact k_)
  obtain ⟨pc15, hv15, pre15⟩ : ∃ (pc15 : Int32), (True) ∧ ∀ t_, Steps p.tables e below (s₁.setTop (mkF m 67 #[.val (.int o1), .val (.int o2), .val (.int o3), .val (.long u1), .second, .val (.long u2), .second, .val (.long u3), .second, .val (.long k1), .second, .val (.long k2), .second, .val (.long k3), .second, .val (.int se), .val (.int pb9), .unset, .unset, .unset, .unset, .unset, .unset, .unset] [(.int pc15)])) t_ → Steps p.tables e below (s₁.setTop (entryFrame m #[(.int o1), (.int o2), (.int o3), (.long u1), (.long u2), (.long u3)] maxLocals)) t_ := by
    have pre16 : ∀ t_, Steps p.tables e below (s₁.setTop (mkF m 58 #[.val (.int o1), .val (.int o2), .val (.int o3), .val (.long u1), .second, .val (.long u2), .second, .val (.long u3), .second, .val (.long k1), .second, .val (.long k2), .second, .val (.long k3), .second, .val (.int se), .val (.int pb9), .unset, .unset, .unset, .unset, .unset, .unset, .unset] [(.int (lcmpW u3 (0 : Int64)))])) t_ → Steps p.tables e below (s₁.setTop (entryFrame m #[(.int o1), (.int o2), (.int o3), (.long u1), (.long u2), (.long u3)] maxLocals)) t_ := fun t_ k_ => pre14 t_ (by
        refine XS.lload X0.here hx rfl (hb hby at_54) rfl ?_
        show Steps p.tables e below (s₁.setTop (mkF m 56 #[.val (.int o1), .val (.int o2), .val (.int o3), .val (.long u1), .second, .val (.long u2), .second, .val (.long u3), .second, .val (.long k1), .second, .val (.long k2), .second, .val (.long k3), .second, .val (.int se), .val (.int pb9), .unset, .unset, .unset, .unset, .unset, .unset, .unset] [(.long u3)])) _
        refine XS.lconst X0.here hx rfl (hb hby at_56) ?_
        show Steps p.tables e below (s₁.setTop (mkF m 57 #[.val (.int o1), .val (.int o2), .val (.int o3), .val (.long u1), .second, .val (.long u2), .second, .val (.long u3), .second, .val (.long k1), .second, .val (.long k2), .second, .val (.long k3), .second, .val (.int se), .val (.int pb9), .unset, .unset, .unset, .unset, .unset, .unset, .unset] [(.long (0 : Int64)), (.long u3)])) _
        refine XS.lcmp X0.here hx rfl (hb hby at_57) rfl ?_
        show Steps p.tables e below (s₁.setTop (mkF m 58 #[.val (.int o1), .val (.int o2), .val (.int o3), .val (.long u1), .second, .val (.long u2), .second, .val (.long u3), .second, .val (.long k1), .second, .val (.long k2), .second, .val (.long k3), .second, .val (.int se), .val (.int pb9), .unset, .unset, .unset, .unset, .unset, .unset, .unset] [(.int (lcmpW u3 (0 : Int64)))])) _
        exact k_)
    by_cases c58_17 : (lcmpW u3 (0 : Int64)) < (0 : Int32)
    · have pre18 : ∀ t_, Steps p.tables e below (s₁.setTop (mkF m 67 #[.val (.int o1), .val (.int o2), .val (.int o3), .val (.long u1), .second, .val (.long u2), .second, .val (.long u3), .second, .val (.long k1), .second, .val (.long k2), .second, .val (.long k3), .second, .val (.int se), .val (.int pb9), .unset, .unset, .unset, .unset, .unset, .unset, .unset] [(.int pb9)])) t_ → Steps p.tables e below (s₁.setTop (entryFrame m #[(.int o1), (.int o2), (.int o3), (.long u1), (.long u2), (.long u3)] maxLocals)) t_ := fun t_ k_ => pre16 t_ (by
          refine XS.ifNo X0.here hx rfl (hb hby at_58) rfl ((if0 _ _).trans (tlt c58_17).2.1) ?_
          show Steps p.tables e below (s₁.setTop (mkF m 61 #[.val (.int o1), .val (.int o2), .val (.int o3), .val (.long u1), .second, .val (.long u2), .second, .val (.long u3), .second, .val (.long k1), .second, .val (.long k2), .second, .val (.long k3), .second, .val (.int se), .val (.int pb9), .unset, .unset, .unset, .unset, .unset, .unset, .unset] [])) _
          refine XS.iload X0.here hx rfl (hb hby at_61) rfl ?_
          show Steps p.tables e below (s₁.setTop (mkF m 63 #[.val (.int o1), .val (.int o2), .val (.int o3), .val (.long u1), .second, .val (.long u2), .second, .val (.long u3), .second, .val (.long k1), .second, .val (.long k2), .second, .val (.long k3), .second, .val (.int se), .val (.int pb9), .unset, .unset, .unset, .unset, .unset, .unset, .unset] [(.int pb9)])) _
          refine XS.goto X0.here hx rfl (pc0 := 63) (pc' := 67) rfl (hb hby at_63) (by decide) (by decide) ?_
          show Steps p.tables e below (s₁.setTop (mkF m 67 #[.val (.int o1), .val (.int o2), .val (.int o3), .val (.long u1), .second, .val (.long u2), .second, .val (.long u3), .second, .val (.long k1), .second, .val (.long k2), .second, .val (.long k3), .second, .val (.int se), .val (.int pb9), .unset, .unset, .unset, .unset, .unset, .unset, .unset] [(.int pb9)])) _
          exact k_)
      exact ⟨pb9, trivial, pre18⟩
    · have pre19 : ∀ t_, Steps p.tables e below (s₁.setTop (mkF m 67 #[.val (.int o1), .val (.int o2), .val (.int o3), .val (.long u1), .second, .val (.long u2), .second, .val (.long u3), .second, .val (.long k1), .second, .val (.long k2), .second, .val (.long k3), .second, .val (.int se), .val (.int pb9), .unset, .unset, .unset, .unset, .unset, .unset, .unset] [(.int o3)])) t_ → Steps p.tables e below (s₁.setTop (entryFrame m #[(.int o1), (.int o2), (.int o3), (.long u1), (.long u2), (.long u3)] maxLocals)) t_ := fun t_ k_ => pre16 t_ (by
          refine XS.ifYes X0.here hx rfl (pc0 := 58) (pc' := 66) rfl (hb hby at_58) rfl ((if0 _ _).trans (flt c58_17).2.1) (by decide) (by decide) ?_
          show Steps p.tables e below (s₁.setTop (mkF m 66 #[.val (.int o1), .val (.int o2), .val (.int o3), .val (.long u1), .second, .val (.long u2), .second, .val (.long u3), .second, .val (.long k1), .second, .val (.long k2), .second, .val (.long k3), .second, .val (.int se), .val (.int pb9), .unset, .unset, .unset, .unset, .unset, .unset, .unset] [])) _
          refine XS.iloadN X0.here hx rfl (hb hby at_66) rfl ?_
          show Steps p.tables e below (s₁.setTop (mkF m 67 #[.val (.int o1), .val (.int o2), .val (.int o3), .val (.long u1), .second, .val (.long u2), .second, .val (.long u3), .second, .val (.long k1), .second, .val (.long k2), .second, .val (.long k3), .second, .val (.int se), .val (.int pb9), .unset, .unset, .unset, .unset, .unset, .unset, .unset] [(.int o3)])) _
          exact k_)
      exact ⟨o3, trivial, pre19⟩
  have pre20 : ∀ t_, Steps p.tables e below (s₁.setTop (mkF m 69 #[.val (.int o1), .val (.int o2), .val (.int o3), .val (.long u1), .second, .val (.long u2), .second, .val (.long u3), .second, .val (.long k1), .second, .val (.long k2), .second, .val (.long k3), .second, .val (.int se), .val (.int pb9), .val (.int pc15), .unset, .unset, .unset, .unset, .unset, .unset] [])) t_ → Steps p.tables e below (s₁.setTop (entryFrame m #[(.int o1), (.int o2), (.int o3), (.long u1), (.long u2), (.long u3)] maxLocals)) t_ := fun t_ k_ => pre15 t_ (by
      refine XS.istore X0.here hx rfl (hb hby at_67) rfl (l' := #[.val (.int o1), .val (.int o2), .val (.int o3), .val (.long u1), .second, .val (.long u2), .second, .val (.long u3), .second, .val (.long k1), .second, .val (.long k2), .second, .val (.long k3), .second, .val (.int se), .val (.int pb9), .val (.int pc15), .unset, .unset, .unset, .unset, .unset, .unset]) rfl ?_
      show Steps p.tables e below (s₁.setTop (mkF m 69 #[.val (.int o1), .val (.int o2), .val (.int o3), .val (.long u1), .second, .val (.long u2), .second, .val (.long u3), .second, .val (.long k1), .second, .val (.long k2), .second, .val (.long k3), .second, .val (.int se), .val (.int pb9), .val (.int pc15), .unset, .unset, .unset, .unset, .unset, .unset] [])) _
      exact k_)
  obtain ⟨ex21, hv21, pre21⟩ : ∃ (ex21 : Int32), (True) ∧ ∀ t_, Steps p.tables e below (s₁.setTop (mkF m 103 #[.val (.int o1), .val (.int o2), .val (.int o3), .val (.long u1), .second, .val (.long u2), .second, .val (.long u3), .second, .val (.long k1), .second, .val (.long k2), .second, .val (.long k3), .second, .val (.int se), .val (.int pb9), .val (.int pc15), .unset, .unset, .unset, .unset, .unset, .unset] [(.int ex21)])) t_ → Steps p.tables e below (s₁.setTop (entryFrame m #[(.int o1), (.int o2), (.int o3), (.long u1), (.long u2), (.long u3)] maxLocals)) t_ := by
    have pre22 : ∀ t_, Steps p.tables e below (s₁.setTop (mkF m 71 #[.val (.int o1), .val (.int o2), .val (.int o3), .val (.long u1), .second, .val (.long u2), .second, .val (.long u3), .second, .val (.long k1), .second, .val (.long k2), .second, .val (.long k3), .second, .val (.int se), .val (.int pb9), .val (.int pc15), .unset, .unset, .unset, .unset, .unset, .unset] [(.int se)])) t_ → Steps p.tables e below (s₁.setTop (entryFrame m #[(.int o1), (.int o2), (.int o3), (.long u1), (.long u2), (.long u3)] maxLocals)) t_ := fun t_ k_ => pre20 t_ (by
        refine XS.iload X0.here hx rfl (hb hby at_69) rfl ?_
        show Steps p.tables e below (s₁.setTop (mkF m 71 #[.val (.int o1), .val (.int o2), .val (.int o3), .val (.long u1), .second, .val (.long u2), .second, .val (.long u3), .second, .val (.long k1), .second, .val (.long k2), .second, .val (.long k3), .second, .val (.int se), .val (.int pb9), .val (.int pc15), .unset, .unset, .unset, .unset, .unset, .unset] [(.int se)])) _
        exact k_)
    by_cases c71_23 : se = (0 : Int32)
    · have pre24 : ∀ t_, Steps p.tables e below (s₁.setTop (mkF m 103 #[.val (.int o1), .val (.int o2), .val (.int o3), .val (.long u1), .second, .val (.long u2), .second, .val (.long u3), .second, .val (.long k1), .second, .val (.long k2), .second, .val (.long k3), .second, .val (.int se), .val (.int pb9), .val (.int pc15), .unset, .unset, .unset, .unset, .unset, .unset] [(.int o1)])) t_ → Steps p.tables e below (s₁.setTop (entryFrame m #[(.int o1), (.int o2), (.int o3), (.long u1), (.long u2), (.long u3)] maxLocals)) t_ := fun t_ k_ => pre22 t_ (by
          refine XS.ifNo X0.here hx rfl (hb hby at_71) rfl ((if0 _ _).trans (teq c71_23).2) ?_
          show Steps p.tables e below (s₁.setTop (mkF m 74 #[.val (.int o1), .val (.int o2), .val (.int o3), .val (.long u1), .second, .val (.long u2), .second, .val (.long u3), .second, .val (.long k1), .second, .val (.long k2), .second, .val (.long k3), .second, .val (.int se), .val (.int pb9), .val (.int pc15), .unset, .unset, .unset, .unset, .unset, .unset] [])) _
          refine XS.iloadN X0.here hx rfl (hb hby at_74) rfl ?_
          show Steps p.tables e below (s₁.setTop (mkF m 75 #[.val (.int o1), .val (.int o2), .val (.int o3), .val (.long u1), .second, .val (.long u2), .second, .val (.long u3), .second, .val (.long k1), .second, .val (.long k2), .second, .val (.long k3), .second, .val (.int se), .val (.int pb9), .val (.int pc15), .unset, .unset, .unset, .unset, .unset, .unset] [(.int o1)])) _
          refine XS.goto X0.here hx rfl (pc0 := 75) (pc' := 103) rfl (hb hby at_75) (by decide) (by decide) ?_
          show Steps p.tables e below (s₁.setTop (mkF m 103 #[.val (.int o1), .val (.int o2), .val (.int o3), .val (.long u1), .second, .val (.long u2), .second, .val (.long u3), .second, .val (.long k1), .second, .val (.long k2), .second, .val (.long k3), .second, .val (.int se), .val (.int pb9), .val (.int pc15), .unset, .unset, .unset, .unset, .unset, .unset] [(.int o1)])) _
          exact k_)
      exact ⟨o1, trivial, pre24⟩
    · have pre25 : ∀ t_, Steps p.tables e below (s₁.setTop (mkF m 81 #[.val (.int o1), .val (.int o2), .val (.int o3), .val (.long u1), .second, .val (.long u2), .second, .val (.long u3), .second, .val (.long k1), .second, .val (.long k2), .second, .val (.long k3), .second, .val (.int se), .val (.int pb9), .val (.int pc15), .unset, .unset, .unset, .unset, .unset, .unset] [(.int (1 : Int32)), (.int se)])) t_ → Steps p.tables e below (s₁.setTop (entryFrame m #[(.int o1), (.int o2), (.int o3), (.long u1), (.long u2), (.long u3)] maxLocals)) t_ := fun t_ k_ => pre22 t_ (by
          refine XS.ifYes X0.here hx rfl (pc0 := 71) (pc' := 78) rfl (hb hby at_71) rfl ((if0 _ _).trans (feq c71_23).2) (by decide) (by decide) ?_
          show Steps p.tables e below (s₁.setTop (mkF m 78 #[.val (.int o1), .val (.int o2), .val (.int o3), .val (.long u1), .second, .val (.long u2), .second, .val (.long u3), .second, .val (.long k1), .second, .val (.long k2), .second, .val (.long k3), .second, .val (.int se), .val (.int pb9), .val (.int pc15), .unset, .unset, .unset, .unset, .unset, .unset] [])) _
          refine XS.iload X0.here hx rfl (hb hby at_78) rfl ?_
          show Steps p.tables e below (s₁.setTop (mkF m 80 #[.val (.int o1), .val (.int o2), .val (.int o3), .val (.long u1), .second, .val (.long u2), .second, .val (.long u3), .second, .val (.long k1), .second, .val (.long k2), .second, .val (.long k3), .second, .val (.int se), .val (.int pb9), .val (.int pc15), .unset, .unset, .unset, .unset, .unset, .unset] [(.int se)])) _
          refine XS.iconst X0.here hx rfl (hb hby at_80) ?_
          show Steps p.tables e below (s₁.setTop (mkF m 81 #[.val (.int o1), .val (.int o2), .val (.int o3), .val (.long u1), .second, .val (.long u2), .second, .val (.long u3), .second, .val (.long k1), .second, .val (.long k2), .second, .val (.long k3), .second, .val (.int se), .val (.int pb9), .val (.int pc15), .unset, .unset, .unset, .unset, .unset, .unset] [(.int (1 : Int32)), (.int se)])) _
          exact k_)
      by_cases c81_26 : se = (1 : Int32)
      · have pre27 : ∀ t_, Steps p.tables e below (s₁.setTop (mkF m 103 #[.val (.int o1), .val (.int o2), .val (.int o3), .val (.long u1), .second, .val (.long u2), .second, .val (.long u3), .second, .val (.long k1), .second, .val (.long k2), .second, .val (.long k3), .second, .val (.int se), .val (.int pb9), .val (.int pc15), .unset, .unset, .unset, .unset, .unset, .unset] [(.int pb9)])) t_ → Steps p.tables e below (s₁.setTop (entryFrame m #[(.int o1), (.int o2), (.int o3), (.long u1), (.long u2), (.long u3)] maxLocals)) t_ := fun t_ k_ => pre25 t_ (by
            refine XS.icmpNo X0.here hx rfl (hb hby at_81) rfl (teq c81_26).2 ?_
            show Steps p.tables e below (s₁.setTop (mkF m 84 #[.val (.int o1), .val (.int o2), .val (.int o3), .val (.long u1), .second, .val (.long u2), .second, .val (.long u3), .second, .val (.long k1), .second, .val (.long k2), .second, .val (.long k3), .second, .val (.int se), .val (.int pb9), .val (.int pc15), .unset, .unset, .unset, .unset, .unset, .unset] [])) _
            refine XS.iload X0.here hx rfl (hb hby at_84) rfl ?_
            show Steps p.tables e below (s₁.setTop (mkF m 86 #[.val (.int o1), .val (.int o2), .val (.int o3), .val (.long u1), .second, .val (.long u2), .second, .val (.long u3), .second, .val (.long k1), .second, .val (.long k2), .second, .val (.long k3), .second, .val (.int se), .val (.int pb9), .val (.int pc15), .unset, .unset, .unset, .unset, .unset, .unset] [(.int pb9)])) _
            refine XS.goto X0.here hx rfl (pc0 := 86) (pc' := 103) rfl (hb hby at_86) (by decide) (by decide) ?_
            show Steps p.tables e below (s₁.setTop (mkF m 103 #[.val (.int o1), .val (.int o2), .val (.int o3), .val (.long u1), .second, .val (.long u2), .second, .val (.long u3), .second, .val (.long k1), .second, .val (.long k2), .second, .val (.long k3), .second, .val (.int se), .val (.int pb9), .val (.int pc15), .unset, .unset, .unset, .unset, .unset, .unset] [(.int pb9)])) _
            exact k_)
        exact ⟨pb9, trivial, pre27⟩
      · have pre28 : ∀ t_, Steps p.tables e below (s₁.setTop (mkF m 92 #[.val (.int o1), .val (.int o2), .val (.int o3), .val (.long u1), .second, .val (.long u2), .second, .val (.long u3), .second, .val (.long k1), .second, .val (.long k2), .second, .val (.long k3), .second, .val (.int se), .val (.int pb9), .val (.int pc15), .unset, .unset, .unset, .unset, .unset, .unset] [(.int (2 : Int32)), (.int se)])) t_ → Steps p.tables e below (s₁.setTop (entryFrame m #[(.int o1), (.int o2), (.int o3), (.long u1), (.long u2), (.long u3)] maxLocals)) t_ := fun t_ k_ => pre25 t_ (by
            refine XS.icmpYes X0.here hx rfl (pc0 := 81) (pc' := 89) rfl (hb hby at_81) rfl (feq c81_26).2 (by decide) (by decide) ?_
            show Steps p.tables e below (s₁.setTop (mkF m 89 #[.val (.int o1), .val (.int o2), .val (.int o3), .val (.long u1), .second, .val (.long u2), .second, .val (.long u3), .second, .val (.long k1), .second, .val (.long k2), .second, .val (.long k3), .second, .val (.int se), .val (.int pb9), .val (.int pc15), .unset, .unset, .unset, .unset, .unset, .unset] [])) _
            refine XS.iload X0.here hx rfl (hb hby at_89) rfl ?_
            show Steps p.tables e below (s₁.setTop (mkF m 91 #[.val (.int o1), .val (.int o2), .val (.int o3), .val (.long u1), .second, .val (.long u2), .second, .val (.long u3), .second, .val (.long k1), .second, .val (.long k2), .second, .val (.long k3), .second, .val (.int se), .val (.int pb9), .val (.int pc15), .unset, .unset, .unset, .unset, .unset, .unset] [(.int se)])) _
            refine XS.iconst X0.here hx rfl (hb hby at_91) ?_
            show Steps p.tables e below (s₁.setTop (mkF m 92 #[.val (.int o1), .val (.int o2), .val (.int o3), .val (.long u1), .second, .val (.long u2), .second, .val (.long u3), .second, .val (.long k1), .second, .val (.long k2), .second, .val (.long k3), .second, .val (.int se), .val (.int pb9), .val (.int pc15), .unset, .unset, .unset, .unset, .unset, .unset] [(.int (2 : Int32)), (.int se)])) _
            exact k_)
        by_cases c92_29 : se = (2 : Int32)
        · have pre30 : ∀ t_, Steps p.tables e below (s₁.setTop (mkF m 103 #[.val (.int o1), .val (.int o2), .val (.int o3), .val (.long u1), .second, .val (.long u2), .second, .val (.long u3), .second, .val (.long k1), .second, .val (.long k2), .second, .val (.long k3), .second, .val (.int se), .val (.int pb9), .val (.int pc15), .unset, .unset, .unset, .unset, .unset, .unset] [(.int pc15)])) t_ → Steps p.tables e below (s₁.setTop (entryFrame m #[(.int o1), (.int o2), (.int o3), (.long u1), (.long u2), (.long u3)] maxLocals)) t_ := fun t_ k_ => pre28 t_ (by
              refine XS.icmpNo X0.here hx rfl (hb hby at_92) rfl (teq c92_29).2 ?_
              show Steps p.tables e below (s₁.setTop (mkF m 95 #[.val (.int o1), .val (.int o2), .val (.int o3), .val (.long u1), .second, .val (.long u2), .second, .val (.long u3), .second, .val (.long k1), .second, .val (.long k2), .second, .val (.long k3), .second, .val (.int se), .val (.int pb9), .val (.int pc15), .unset, .unset, .unset, .unset, .unset, .unset] [])) _
              refine XS.iload X0.here hx rfl (hb hby at_95) rfl ?_
              show Steps p.tables e below (s₁.setTop (mkF m 97 #[.val (.int o1), .val (.int o2), .val (.int o3), .val (.long u1), .second, .val (.long u2), .second, .val (.long u3), .second, .val (.long k1), .second, .val (.long k2), .second, .val (.long k3), .second, .val (.int se), .val (.int pb9), .val (.int pc15), .unset, .unset, .unset, .unset, .unset, .unset] [(.int pc15)])) _
              refine XS.goto X0.here hx rfl (pc0 := 97) (pc' := 103) rfl (hb hby at_97) (by decide) (by decide) ?_
              show Steps p.tables e below (s₁.setTop (mkF m 103 #[.val (.int o1), .val (.int o2), .val (.int o3), .val (.long u1), .second, .val (.long u2), .second, .val (.long u3), .second, .val (.long k1), .second, .val (.long k2), .second, .val (.long k3), .second, .val (.int se), .val (.int pb9), .val (.int pc15), .unset, .unset, .unset, .unset, .unset, .unset] [(.int pc15)])) _
              exact k_)
          exact ⟨pc15, trivial, pre30⟩
        · have pre31 : ∀ t_, Steps p.tables e below (s₁.setTop (mkF m 103 #[.val (.int o1), .val (.int o2), .val (.int o3), .val (.long u1), .second, .val (.long u2), .second, .val (.long u3), .second, .val (.long k1), .second, .val (.long k2), .second, .val (.long k3), .second, .val (.int se), .val (.int pb9), .val (.int pc15), .unset, .unset, .unset, .unset, .unset, .unset] [(.int (o1 ^^^ (-1 : Int32)))])) t_ → Steps p.tables e below (s₁.setTop (entryFrame m #[(.int o1), (.int o2), (.int o3), (.long u1), (.long u2), (.long u3)] maxLocals)) t_ := fun t_ k_ => pre28 t_ (by
              refine XS.icmpYes X0.here hx rfl (pc0 := 92) (pc' := 100) rfl (hb hby at_92) rfl (feq c92_29).2 (by decide) (by decide) ?_
              show Steps p.tables e below (s₁.setTop (mkF m 100 #[.val (.int o1), .val (.int o2), .val (.int o3), .val (.long u1), .second, .val (.long u2), .second, .val (.long u3), .second, .val (.long k1), .second, .val (.long k2), .second, .val (.long k3), .second, .val (.int se), .val (.int pb9), .val (.int pc15), .unset, .unset, .unset, .unset, .unset, .unset] [])) _
              refine XS.iloadN X0.here hx rfl (hb hby at_100) rfl ?_
              show Steps p.tables e below (s₁.setTop (mkF m 101 #[.val (.int o1), .val (.int o2), .val (.int o3), .val (.long u1), .second, .val (.long u2), .second, .val (.long u3), .second, .val (.long k1), .second, .val (.long k2), .second, .val (.long k3), .second, .val (.int se), .val (.int pb9), .val (.int pc15), .unset, .unset, .unset, .unset, .unset, .unset] [(.int o1)])) _
              refine XS.iconst X0.here hx rfl (hb hby at_101) ?_
              show Steps p.tables e below (s₁.setTop (mkF m 102 #[.val (.int o1), .val (.int o2), .val (.int o3), .val (.long u1), .second, .val (.long u2), .second, .val (.long u3), .second, .val (.long k1), .second, .val (.long k2), .second, .val (.long k3), .second, .val (.int se), .val (.int pb9), .val (.int pc15), .unset, .unset, .unset, .unset, .unset, .unset] [(.int (-1 : Int32)), (.int o1)])) _
              refine XS.ixor X0.here hx rfl (hb hby at_102) rfl ?_
              show Steps p.tables e below (s₁.setTop (mkF m 103 #[.val (.int o1), .val (.int o2), .val (.int o3), .val (.long u1), .second, .val (.long u2), .second, .val (.long u3), .second, .val (.long k1), .second, .val (.long k2), .second, .val (.long k3), .second, .val (.int se), .val (.int pb9), .val (.int pc15), .unset, .unset, .unset, .unset, .unset, .unset] [(.int (o1 ^^^ (-1 : Int32)))])) _
              exact k_)
          exact ⟨(o1 ^^^ (-1 : Int32)), trivial, pre31⟩
  obtain ⟨T32, h32, X32, e32, E32, A32, D32, -, st32⟩ := newO X0 hx hZ hown (hw _ (List.mem_of_getElem? (i := 2) rfl)) (hw _ (List.mem_of_getElem? (i := 3) rfl)) (hw _ (List.mem_of_getElem? (i := 4) rfl)) e0 (g := (mkF m 105 #[.val (.int o1), .val (.int o2), .val (.int o3), .val (.long u1), .second, .val (.long u2), .second, .val (.long u3), .second, .val (.long k1), .second, .val (.long k2), .second, .val (.long k3), .second, .val (.int se), .val (.int pb9), .val (.int pc15), .val (.int ex21), .unset, .unset, .unset, .unset, .unset] [])) rfl (hb hby at_105) (by decide) (by decide)
  obtain ⟨ec, g32⟩ : ∃ z, z = h0.size := ⟨_, rfl⟩
  rw [← g32] at A32 D32 st32
  have gg32 : n0 ≤ ec := Nat.le_trans Z0 (Nat.le_of_eq g32.symm)
  have Z32 : n0 ≤ h32.size := Nat.le_trans Z0 E32.1
  have f33 : Fld Z h32 ec "com/example/headwater/headwater/headdriven/EventCounts" "m_aNodes" "Lcom/example/headwater/headwater/headdriven/LongMap;" .null := D32 (Or.inr (hw _ (List.mem_of_getElem? (i := 47) rfl))) (ty := (.object "com/example/headwater/headwater/headdriven/LongMap")) (by decide)
  have f34 : Fld Z h32 ec "com/example/headwater/headwater/headdriven/EventCounts" "m_aNodeCounts" "[J" .null := D32 (Or.inl (hw _ (List.mem_of_getElem? (i := 49) rfl))) (ty := (.array .long)) (by decide)
  have f35 : Fld Z h32 ec "com/example/headwater/headwater/headdriven/EventCounts" "m_aPairs" "Lcom/example/headwater/headwater/headdriven/LongMap;" .null := D32 (Or.inr (hw _ (List.mem_of_getElem? (i := 51) rfl))) (ty := (.object "com/example/headwater/headwater/headdriven/LongMap")) (by decide)
  have f36 : Fld Z h32 ec "com/example/headwater/headwater/headdriven/EventCounts" "m_nRoots" "I" (.int (0 : Int32)) := D32 (Or.inl (hw _ (List.mem_of_getElem? (i := 58) rfl))) (ty := .int) (by decide)
  obtain ⟨_, _, ⟨T37, L37, k37, n37⟩, -, X37, ⟨Lc37, hQ37, l37, y37, z37⟩, st37⟩ := X32.specialBack hx (y := (⟨"com/example/headwater/headwater/headdriven/EventCounts", "<init>", "()V"⟩ : MethodName)) rfl hown (mvT hZ (hw _ (List.mem_of_getElem? (i := 5) rfl))) (mvT hZ (hw _ (List.mem_of_getElem? (i := 6) rfl))) (mvT hZ (hw _ (List.mem_of_getElem? (i := 7) rfl))) (by decide) (backOf (W := 1) (rmIN l Z a0 hw [] ec  h32 n0 Z32 A32 f33 f34 f35 f36 gg32) hZ (hw _ (List.mem_of_getElem? (i := 7) rfl)) (hw _ (List.mem_of_getElem? (i := 4) rfl)) (by decide) (by decide)) (g := (mkF m 109 #[.val (.int o1), .val (.int o2), .val (.int o3), .val (.long u1), .second, .val (.long u2), .second, .val (.long u3), .second, .val (.long k1), .second, .val (.long k2), .second, .val (.long k3), .second, .val (.int se), .val (.int pb9), .val (.int pc15), .val (.int ex21), .unset, .unset, .unset, .unset, .unset] [(.ref ec), (.ref ec)])) rfl (by rw [hml]; rfl) (Steps.refl _) (a := ec) (argsL := []) (rest := [(.ref ec)]) (lenOf pd0_0 rfl) rfl (by show 2 * 0 + _ ≤ _; exact Nat.le_of_eq rfl) (hb hby at_109) (fun _ _ => ⟨rfl, e32, (by decide : 1 + 11 ≤ _), (by decide : 4 + 156 ≤ _)⟩)
  dsimp only [Pt.U, Pt.locs, Pt.cells, Pt.slots] at X37 l37 y37 z37 st37 hQ37
  subst l37 y37 z37
  obtain ⟨rfl, N37q, K37, nm, nsl, nus, nc, pm, psl, pus, Fi_m_aNodes, Fi_m_aNodeCounts, Fi_m_aPairs, Fi_m_nRoots, LMn, LMp, Anc, gg_nm, gg_nsl, gg_nus, gg_nc, gg_pm, gg_psl, gg_pus, dd_a1_nm, dd_a1_nsl, dd_a1_nus, dd_a1_nc, dd_a1_pm, dd_a1_psl, dd_a1_pus, dd_nm_nsl, dd_nm_nus, dd_nm_nc, dd_nm_pm, dd_nm_psl, dd_nm_pus, dd_nsl_nus, dd_nsl_nc, dd_nsl_pm, dd_nsl_psl, dd_nsl_pus, dd_nus_nc, dd_nus_pm, dd_nus_psl, dd_nus_pus, dd_nc_pm, dd_nc_psl, dd_nc_pus, dd_pm_psl, dd_pm_pus, dd_psl_pus⟩ := hQ37
  have N37 := Fr.app N0 N37q
  have f38 := A32.keep K37
  have Z37 : n0 ≤ T37.heap.size := Nat.le_trans Z32 K37.1
  obtain ⟨cq39, kq39, q39a, q39b, q39c⟩ := isOf hZ rfl f38
  obtain ⟨_, _, ⟨T39, L39, k39, n39⟩, -, X39, ⟨Lc39, hQ39, l39, y39, z39⟩, st39⟩ := X37.virtualBack hx (y := (⟨"com/example/headwater/headwater/headdriven/EventCounts", "addRoot", "()I"⟩ : MethodName)) (z := (⟨"com/example/headwater/headwater/headdriven/EventCounts", "addRoot", "()I"⟩ : MethodName)) hown (mvT hZ (hw _ (List.mem_of_getElem? (i := 52) rfl))) (mvT hZ (hw _ (List.mem_of_getElem? (i := 53) rfl))) (notFace_of_selects (args := #[]) (mvT hZ (hw _ (List.mem_of_getElem? (i := 55) rfl)))) (mvT hZ (hw _ (List.mem_of_getElem? (i := 55) rfl))) (mvT hZ (hw _ (List.mem_of_getElem? (i := 54) rfl))) (by decide) (backOf (W := 0) (rmX l Z a0 hw [] ec (0 : Int32) nm nsl nus nc pm (fun _ => .long (0 : Int64)) (fun _ => none) 0 T37.heap n0 Z37 f38 Fi_m_nRoots Fi_m_aNodes Fi_m_aNodeCounts Fi_m_aPairs Anc LMn (by decide) (by decide) rfl dd_nm_nsl dd_nm_nus dd_nsl_nus dd_a1_nm dd_a1_nsl dd_a1_nus (Ne.symm dd_nm_nc) (Ne.symm dd_nsl_nc) (Ne.symm dd_nus_nc) dd_a1_nc gg32 gg_nm gg_nsl gg_nus) hZ (hw _ (List.mem_of_getElem? (i := 56) rfl)) (hw _ (List.mem_of_getElem? (i := 4) rfl)) (by decide) (by decide)) q39a q39c (g := (mkF m 116 #[.val (.int o1), .val (.int o2), .val (.int o3), .val (.long u1), .second, .val (.long u2), .second, .val (.long u3), .second, .val (.long k1), .second, .val (.long k2), .second, .val (.long k3), .second, .val (.int se), .val (.int pb9), .val (.int pc15), .val (.int ex21), .val (.ref ec), .unset, .unset, .unset, .unset] [(.ref ec)])) rfl (by rw [hml]; rfl) (Steps.refl _) (argsL := []) (rest := []) (lenOf pd0_1 rfl) rfl (by show 2 * 0 + _ ≤ _; exact Nat.le_of_eq rfl) (hb hby at_116) (fun _ _ => ⟨rfl, rfl, (by decide : 12 + 0 ≤ _), (by decide : 160 + 0 ≤ _)⟩)
  dsimp only [Pt.U, Pt.locs, Pt.cells, Pt.slots] at X39 l39 y39 z39 st39 hQ39
  subst l39 y39 z39
  obtain ⟨rfl, N39q, K39, LMr39, Fr39_m_nRoots, Fr39_m_aNodes, Fr39_m_aNodeCounts, Fr39_m_aPairs⟩ := hQ39
  have N39 := Fr.app N37 N39q
  have f40 := f38.keep K39
  have f41 := LMp.keep K39 (ninS (Ne.symm dd_a1_pm) (ninS (Ne.symm dd_nm_pm) (ninS (Ne.symm dd_nsl_pm) (ninS (Ne.symm dd_nus_pm) nin0)))) (ninS (Ne.symm dd_a1_psl) (ninS (Ne.symm dd_nm_psl) (ninS (Ne.symm dd_nsl_psl) (ninS (Ne.symm dd_nus_psl) nin0)))) (ninS (Ne.symm dd_a1_pus) (ninS (Ne.symm dd_nm_pus) (ninS (Ne.symm dd_nsl_pus) (ninS (Ne.symm dd_nus_pus) nin0))))
  have f42 := Anc.keep K39 (ninS (Ne.symm dd_a1_nc) (ninS (Ne.symm dd_nm_nc) (ninS (Ne.symm dd_nsl_nc) (ninS (Ne.symm dd_nus_nc) nin0))))
  have Z39 : n0 ≤ T39.heap.size := Nat.le_trans Z37 K39.1
  obtain ⟨cq43, kq43, q43a, q43b, q43c⟩ := isOf hZ rfl f40
  obtain ⟨_, _, ⟨T43, L43, k43, n43⟩, -, X43, ⟨Lc43, hQ43, l43, y43, z43⟩, st43⟩ := X39.virtualBack hx (y := (⟨"com/example/headwater/headwater/headdriven/EventCounts", "addRoot", "()I"⟩ : MethodName)) (z := (⟨"com/example/headwater/headwater/headdriven/EventCounts", "addRoot", "()I"⟩ : MethodName)) hown (mvT hZ (hw _ (List.mem_of_getElem? (i := 52) rfl))) (mvT hZ (hw _ (List.mem_of_getElem? (i := 53) rfl))) (notFace_of_selects (args := #[]) (mvT hZ (hw _ (List.mem_of_getElem? (i := 55) rfl)))) (mvT hZ (hw _ (List.mem_of_getElem? (i := 55) rfl))) (mvT hZ (hw _ (List.mem_of_getElem? (i := 54) rfl))) (by decide) (backOf (W := 0) (rmX l Z a0 hw [] ec ((0 : Int32) + (1 : Int32)) nm nsl nus nc pm (fun _ => .long (0 : Int64)) (own_mput (fun _ => none) (own_key (-1 : Int32) (0 : Int32)) ((Int32.ofNat 0).toInt64)) 1 T39.heap n0 Z39 f40 Fr39_m_nRoots Fr39_m_aNodes Fr39_m_aNodeCounts Fr39_m_aPairs f42 LMr39 (by decide) (by decide) (by rw [own_mput, if_neg (by decide)]) dd_nm_nsl dd_nm_nus dd_nsl_nus dd_a1_nm dd_a1_nsl dd_a1_nus (Ne.symm dd_nm_nc) (Ne.symm dd_nsl_nc) (Ne.symm dd_nus_nc) dd_a1_nc gg32 gg_nm gg_nsl gg_nus) hZ (hw _ (List.mem_of_getElem? (i := 56) rfl)) (hw _ (List.mem_of_getElem? (i := 4) rfl)) (by decide) (by decide)) q43a q43c (g := (mkF m 123 #[.val (.int o1), .val (.int o2), .val (.int o3), .val (.long u1), .second, .val (.long u2), .second, .val (.long u3), .second, .val (.long k1), .second, .val (.long k2), .second, .val (.long k3), .second, .val (.int se), .val (.int pb9), .val (.int pc15), .val (.int ex21), .val (.ref ec), .val (.int (Int32.ofNat 0)), .unset, .unset, .unset] [(.ref ec)])) rfl (by rw [hml]; rfl) (Steps.refl _) (argsL := []) (rest := []) (lenOf pd0_1 rfl) rfl (by show 2 * 0 + _ ≤ _; exact Nat.le_of_eq rfl) (hb hby at_123) (fun _ _ => ⟨rfl, rfl, (by decide : 12 + 0 ≤ _), (by decide : 160 + 0 ≤ _)⟩)
  dsimp only [Pt.U, Pt.locs, Pt.cells, Pt.slots] at X43 l43 y43 z43 st43 hQ43
  subst l43 y43 z43
  obtain ⟨rfl, N43q, K43, LMr43, Fr43_m_nRoots, Fr43_m_aNodes, Fr43_m_aNodeCounts, Fr43_m_aPairs⟩ := hQ43
  have N43 := Fr.app N39 N43q
  have f44 := f40.keep K43
  have f45 := f41.keep K43 (ninS (Ne.symm dd_a1_pm) (ninS (Ne.symm dd_nm_pm) (ninS (Ne.symm dd_nsl_pm) (ninS (Ne.symm dd_nus_pm) nin0)))) (ninS (Ne.symm dd_a1_psl) (ninS (Ne.symm dd_nm_psl) (ninS (Ne.symm dd_nsl_psl) (ninS (Ne.symm dd_nus_psl) nin0)))) (ninS (Ne.symm dd_a1_pus) (ninS (Ne.symm dd_nm_pus) (ninS (Ne.symm dd_nsl_pus) (ninS (Ne.symm dd_nus_pus) nin0))))
  have f46 := f42.keep K43 (ninS (Ne.symm dd_a1_nc) (ninS (Ne.symm dd_nm_nc) (ninS (Ne.symm dd_nsl_nc) (ninS (Ne.symm dd_nus_nc) nin0))))
  have Z43 : n0 ≤ T43.heap.size := Nat.le_trans Z39 K43.1
  have pre47 : ∀ t_, Steps p.tables e below (T43.setTop (mkF m 128 #[.val (.int o1), .val (.int o2), .val (.int o3), .val (.long u1), .second, .val (.long u2), .second, .val (.long u3), .second, .val (.long k1), .second, .val (.long k2), .second, .val (.long k3), .second, .val (.int se), .val (.int pb9), .val (.int pc15), .val (.int ex21), .val (.ref ec), .val (.int (Int32.ofNat 0)), .val (.int (Int32.ofNat 1)), .unset, .unset] [])) t_ → Steps p.tables e below (s₁.setTop (entryFrame m #[(.int o1), (.int o2), (.int o3), (.long u1), (.long u2), (.long u3)] maxLocals)) t_ := fun t_ k_ => pre21 t_ (by
      refine XS.istore X0.here hx rfl (hb hby at_103) rfl (l' := #[.val (.int o1), .val (.int o2), .val (.int o3), .val (.long u1), .second, .val (.long u2), .second, .val (.long u3), .second, .val (.long k1), .second, .val (.long k2), .second, .val (.long k3), .second, .val (.int se), .val (.int pb9), .val (.int pc15), .val (.int ex21), .unset, .unset, .unset, .unset, .unset]) rfl ?_
      show Steps p.tables e below (s₁.setTop (mkF m 105 #[.val (.int o1), .val (.int o2), .val (.int o3), .val (.long u1), .second, .val (.long u2), .second, .val (.long u3), .second, .val (.long k1), .second, .val (.long k2), .second, .val (.long k3), .second, .val (.int se), .val (.int pb9), .val (.int pc15), .val (.int ex21), .unset, .unset, .unset, .unset, .unset] [])) _
      refine st32 _ ?_
      show Steps p.tables e below (T32.setTop (mkF m 108 #[.val (.int o1), .val (.int o2), .val (.int o3), .val (.long u1), .second, .val (.long u2), .second, .val (.long u3), .second, .val (.long k1), .second, .val (.long k2), .second, .val (.long k3), .second, .val (.int se), .val (.int pb9), .val (.int pc15), .val (.int ex21), .unset, .unset, .unset, .unset, .unset] [(.ref ec)])) _
      refine XS.dup X32.here hx rfl (hb hby at_108) rfl rfl ?_
      show Steps p.tables e below (T32.setTop (mkF m 109 #[.val (.int o1), .val (.int o2), .val (.int o3), .val (.long u1), .second, .val (.long u2), .second, .val (.long u3), .second, .val (.long k1), .second, .val (.long k2), .second, .val (.long k3), .second, .val (.int se), .val (.int pb9), .val (.int pc15), .val (.int ex21), .unset, .unset, .unset, .unset, .unset] [(.ref ec), (.ref ec)])) _
      refine st37.trans ?_
      show Steps p.tables e below (T37.setTop (mkF m 112 #[.val (.int o1), .val (.int o2), .val (.int o3), .val (.long u1), .second, .val (.long u2), .second, .val (.long u3), .second, .val (.long k1), .second, .val (.long k2), .second, .val (.long k3), .second, .val (.int se), .val (.int pb9), .val (.int pc15), .val (.int ex21), .unset, .unset, .unset, .unset, .unset] [(.ref ec)])) _
      refine XS.astore X37.here hx rfl (hb hby at_112) rfl rfl (l' := #[.val (.int o1), .val (.int o2), .val (.int o3), .val (.long u1), .second, .val (.long u2), .second, .val (.long u3), .second, .val (.long k1), .second, .val (.long k2), .second, .val (.long k3), .second, .val (.int se), .val (.int pb9), .val (.int pc15), .val (.int ex21), .val (.ref ec), .unset, .unset, .unset, .unset]) rfl ?_
      show Steps p.tables e below (T37.setTop (mkF m 114 #[.val (.int o1), .val (.int o2), .val (.int o3), .val (.long u1), .second, .val (.long u2), .second, .val (.long u3), .second, .val (.long k1), .second, .val (.long k2), .second, .val (.long k3), .second, .val (.int se), .val (.int pb9), .val (.int pc15), .val (.int ex21), .val (.ref ec), .unset, .unset, .unset, .unset] [])) _
      refine XS.aload X37.here hx rfl (hb hby at_114) rfl rfl ?_
      show Steps p.tables e below (T37.setTop (mkF m 116 #[.val (.int o1), .val (.int o2), .val (.int o3), .val (.long u1), .second, .val (.long u2), .second, .val (.long u3), .second, .val (.long k1), .second, .val (.long k2), .second, .val (.long k3), .second, .val (.int se), .val (.int pb9), .val (.int pc15), .val (.int ex21), .val (.ref ec), .unset, .unset, .unset, .unset] [(.ref ec)])) _
      refine st39.trans ?_
      show Steps p.tables e below (T39.setTop (mkF m 119 #[.val (.int o1), .val (.int o2), .val (.int o3), .val (.long u1), .second, .val (.long u2), .second, .val (.long u3), .second, .val (.long k1), .second, .val (.long k2), .second, .val (.long k3), .second, .val (.int se), .val (.int pb9), .val (.int pc15), .val (.int ex21), .val (.ref ec), .unset, .unset, .unset, .unset] [(.int (Int32.ofNat 0))])) _
      refine XS.istore X39.here hx rfl (hb hby at_119) rfl (l' := #[.val (.int o1), .val (.int o2), .val (.int o3), .val (.long u1), .second, .val (.long u2), .second, .val (.long u3), .second, .val (.long k1), .second, .val (.long k2), .second, .val (.long k3), .second, .val (.int se), .val (.int pb9), .val (.int pc15), .val (.int ex21), .val (.ref ec), .val (.int (Int32.ofNat 0)), .unset, .unset, .unset]) rfl ?_
      show Steps p.tables e below (T39.setTop (mkF m 121 #[.val (.int o1), .val (.int o2), .val (.int o3), .val (.long u1), .second, .val (.long u2), .second, .val (.long u3), .second, .val (.long k1), .second, .val (.long k2), .second, .val (.long k3), .second, .val (.int se), .val (.int pb9), .val (.int pc15), .val (.int ex21), .val (.ref ec), .val (.int (Int32.ofNat 0)), .unset, .unset, .unset] [])) _
      refine XS.aload X39.here hx rfl (hb hby at_121) rfl rfl ?_
      show Steps p.tables e below (T39.setTop (mkF m 123 #[.val (.int o1), .val (.int o2), .val (.int o3), .val (.long u1), .second, .val (.long u2), .second, .val (.long u3), .second, .val (.long k1), .second, .val (.long k2), .second, .val (.long k3), .second, .val (.int se), .val (.int pb9), .val (.int pc15), .val (.int ex21), .val (.ref ec), .val (.int (Int32.ofNat 0)), .unset, .unset, .unset] [(.ref ec)])) _
      refine st43.trans ?_
      show Steps p.tables e below (T43.setTop (mkF m 126 #[.val (.int o1), .val (.int o2), .val (.int o3), .val (.long u1), .second, .val (.long u2), .second, .val (.long u3), .second, .val (.long k1), .second, .val (.long k2), .second, .val (.long k3), .second, .val (.int se), .val (.int pb9), .val (.int pc15), .val (.int ex21), .val (.ref ec), .val (.int (Int32.ofNat 0)), .unset, .unset, .unset] [(.int (Int32.ofNat 1))])) _
      refine XS.istore X43.here hx rfl (hb hby at_126) rfl (l' := #[.val (.int o1), .val (.int o2), .val (.int o3), .val (.long u1), .second, .val (.long u2), .second, .val (.long u3), .second, .val (.long k1), .second, .val (.long k2), .second, .val (.long k3), .second, .val (.int se), .val (.int pb9), .val (.int pc15), .val (.int ex21), .val (.ref ec), .val (.int (Int32.ofNat 0)), .val (.int (Int32.ofNat 1)), .unset, .unset]) rfl ?_
      show Steps p.tables e below (T43.setTop (mkF m 128 #[.val (.int o1), .val (.int o2), .val (.int o3), .val (.long u1), .second, .val (.long u2), .second, .val (.long u3), .second, .val (.long k1), .second, .val (.long k2), .second, .val (.long k3), .second, .val (.int se), .val (.int pb9), .val (.int pc15), .val (.int ex21), .val (.ref ec), .val (.int (Int32.ofNat 0)), .val (.int (Int32.ofNat 1)), .unset, .unset] [])) _
      exact k_)
  have hk2 : (k2 + (1 : Int64)).toInt = k2.toInt + 1 := by
    have := r2.1; have := r2.2
    exact own_ladd (by omega) (by decide) (by show k2.toInt + 1 < _; omega)
  obtain ⟨cq48, kq48, q48a, q48b, q48c⟩ := isOf hZ rfl f44
  obtain ⟨_, _, ⟨T48, L48, k48, n48⟩, -, X48, ⟨Lc48, hQ48, l48, y48, z48⟩, st48⟩ := X43.virtualBack hx (y := (⟨"com/example/headwater/headwater/headdriven/EventCounts", "add", "(IIJ)V"⟩ : MethodName)) (z := (⟨"com/example/headwater/headwater/headdriven/EventCounts", "add", "(IIJ)V"⟩ : MethodName)) hown (mvT hZ (hw _ (List.mem_of_getElem? (i := 93) rfl))) (mvT hZ (hw _ (List.mem_of_getElem? (i := 94) rfl))) (notFace_of_selects (args := #[]) (mvT hZ (hw _ (List.mem_of_getElem? (i := 96) rfl)))) (mvT hZ (hw _ (List.mem_of_getElem? (i := 96) rfl))) (mvT hZ (hw _ (List.mem_of_getElem? (i := 95) rfl))) (by decide) (backOf (W := 0) (rmD l Z a0 hw [] ec ((Int32.ofNat 0)) pb9 ((k2 + (1 : Int64))) 0 nc pm psl pus (fun _ => (0 : Int64)) (fun _ => none) 0 T43.heap n0 Z43 Fr43_m_aNodeCounts Fr43_m_aPairs f46 f45 (by decide) rfl (by decide) (own_keyF _ (by decide)) (by rw [hk2]; have := r2.1; omega) (show (0 : Int) ≤ (0 : Int64).toInt by decide) (by rw [hk2]; have := r2.2; show (0 : Int) + _ < _; omega) (show (0 : Int) ≤ (0 : Int64).toInt by decide) (by rw [hk2]; have := r2.2; show (0 : Int) + _ < _; omega) dd_a1_nc dd_a1_pm dd_a1_psl dd_a1_pus dd_nc_pm dd_nc_psl dd_nc_pus dd_pm_psl dd_pm_pus dd_psl_pus gg_nc gg_pm gg_psl gg_pus) hZ (hw _ (List.mem_of_getElem? (i := 97) rfl)) (hw _ (List.mem_of_getElem? (i := 4) rfl)) (by decide) (by decide)) q48a q48c (g := (mkF m 138 #[.val (.int o1), .val (.int o2), .val (.int o3), .val (.long u1), .second, .val (.long u2), .second, .val (.long u3), .second, .val (.long k1), .second, .val (.long k2), .second, .val (.long k3), .second, .val (.int se), .val (.int pb9), .val (.int pc15), .val (.int ex21), .val (.ref ec), .val (.int (Int32.ofNat 0)), .val (.int (Int32.ofNat 1)), .unset, .unset] [(.long (k2 + (1 : Int64))), (.int pb9), (.int (Int32.ofNat 0)), (.ref ec)])) rfl (by rw [hml]; rfl) (Steps.refl _) (argsL := [(.int (Int32.ofNat 0)), (.int pb9), (.long (k2 + (1 : Int64)))]) (rest := []) (lenOf pd0_2 rfl) rfl (by show 2 * 0 + _ ≤ _; exact Nat.le_of_eq rfl) (hb hby at_138) (fun _ _ => ⟨rfl, rfl, (by decide : 12 + 0 ≤ _), (by decide : 160 + 0 ≤ _)⟩)
  dsimp only [Pt.U, Pt.locs, Pt.cells, Pt.slots] at X48 l48 y48 z48 st48 hQ48
  subst l48 y48 z48
  obtain ⟨rfl, N48q, K48, LMa48, ca48, Aa48, HA48⟩ := hQ48
  have N48 := Fr.app N43 N48q
  have f49 := f44.keep K48
  have f50 := Fr43_m_aNodeCounts.keep K48 (ninS dd_a1_nc (ninS dd_a1_pm (ninS dd_a1_psl (ninS dd_a1_pus nin0))))
  have f51 := Fr43_m_aPairs.keep K48 (ninS dd_a1_nc (ninS dd_a1_pm (ninS dd_a1_psl (ninS dd_a1_pus nin0))))
  have Z48 : n0 ≤ T48.heap.size := Nat.le_trans Z43 K48.1
  have pre52 : ∀ t_, Steps p.tables e below (T48.setTop (mkF m 141 #[.val (.int o1), .val (.int o2), .val (.int o3), .val (.long u1), .second, .val (.long u2), .second, .val (.long u3), .second, .val (.long k1), .second, .val (.long k2), .second, .val (.long k3), .second, .val (.int se), .val (.int pb9), .val (.int pc15), .val (.int ex21), .val (.ref ec), .val (.int (Int32.ofNat 0)), .val (.int (Int32.ofNat 1)), .unset, .unset] [])) t_ → Steps p.tables e below (s₁.setTop (entryFrame m #[(.int o1), (.int o2), (.int o3), (.long u1), (.long u2), (.long u3)] maxLocals)) t_ := fun t_ k_ => pre47 t_ (by
      refine XS.aload X43.here hx rfl (hb hby at_128) rfl rfl ?_
      show Steps p.tables e below (T43.setTop (mkF m 130 #[.val (.int o1), .val (.int o2), .val (.int o3), .val (.long u1), .second, .val (.long u2), .second, .val (.long u3), .second, .val (.long k1), .second, .val (.long k2), .second, .val (.long k3), .second, .val (.int se), .val (.int pb9), .val (.int pc15), .val (.int ex21), .val (.ref ec), .val (.int (Int32.ofNat 0)), .val (.int (Int32.ofNat 1)), .unset, .unset] [(.ref ec)])) _
      refine XS.iload X43.here hx rfl (hb hby at_130) rfl ?_
      show Steps p.tables e below (T43.setTop (mkF m 132 #[.val (.int o1), .val (.int o2), .val (.int o3), .val (.long u1), .second, .val (.long u2), .second, .val (.long u3), .second, .val (.long k1), .second, .val (.long k2), .second, .val (.long k3), .second, .val (.int se), .val (.int pb9), .val (.int pc15), .val (.int ex21), .val (.ref ec), .val (.int (Int32.ofNat 0)), .val (.int (Int32.ofNat 1)), .unset, .unset] [(.int (Int32.ofNat 0)), (.ref ec)])) _
      refine XS.iload X43.here hx rfl (hb hby at_132) rfl ?_
      show Steps p.tables e below (T43.setTop (mkF m 134 #[.val (.int o1), .val (.int o2), .val (.int o3), .val (.long u1), .second, .val (.long u2), .second, .val (.long u3), .second, .val (.long k1), .second, .val (.long k2), .second, .val (.long k3), .second, .val (.int se), .val (.int pb9), .val (.int pc15), .val (.int ex21), .val (.ref ec), .val (.int (Int32.ofNat 0)), .val (.int (Int32.ofNat 1)), .unset, .unset] [(.int pb9), (.int (Int32.ofNat 0)), (.ref ec)])) _
      refine XS.lload X43.here hx rfl (hb hby at_134) rfl ?_
      show Steps p.tables e below (T43.setTop (mkF m 136 #[.val (.int o1), .val (.int o2), .val (.int o3), .val (.long u1), .second, .val (.long u2), .second, .val (.long u3), .second, .val (.long k1), .second, .val (.long k2), .second, .val (.long k3), .second, .val (.int se), .val (.int pb9), .val (.int pc15), .val (.int ex21), .val (.ref ec), .val (.int (Int32.ofNat 0)), .val (.int (Int32.ofNat 1)), .unset, .unset] [(.long k2), (.int pb9), (.int (Int32.ofNat 0)), (.ref ec)])) _
      refine XS.lconst X43.here hx rfl (hb hby at_136) ?_
      show Steps p.tables e below (T43.setTop (mkF m 137 #[.val (.int o1), .val (.int o2), .val (.int o3), .val (.long u1), .second, .val (.long u2), .second, .val (.long u3), .second, .val (.long k1), .second, .val (.long k2), .second, .val (.long k3), .second, .val (.int se), .val (.int pb9), .val (.int pc15), .val (.int ex21), .val (.ref ec), .val (.int (Int32.ofNat 0)), .val (.int (Int32.ofNat 1)), .unset, .unset] [(.long (1 : Int64)), (.long k2), (.int pb9), (.int (Int32.ofNat 0)), (.ref ec)])) _
      refine XS.ladd X43.here hx rfl (hb hby at_137) rfl ?_
      show Steps p.tables e below (T43.setTop (mkF m 138 #[.val (.int o1), .val (.int o2), .val (.int o3), .val (.long u1), .second, .val (.long u2), .second, .val (.long u3), .second, .val (.long k1), .second, .val (.long k2), .second, .val (.long k3), .second, .val (.int se), .val (.int pb9), .val (.int pc15), .val (.int ex21), .val (.ref ec), .val (.int (Int32.ofNat 0)), .val (.int (Int32.ofNat 1)), .unset, .unset] [(.long (k2 + (1 : Int64))), (.int pb9), (.int (Int32.ofNat 0)), (.ref ec)])) _
      refine st48.trans ?_
      show Steps p.tables e below (T48.setTop (mkF m 141 #[.val (.int o1), .val (.int o2), .val (.int o3), .val (.long u1), .second, .val (.long u2), .second, .val (.long u3), .second, .val (.long k1), .second, .val (.long k2), .second, .val (.long k3), .second, .val (.int se), .val (.int pb9), .val (.int pc15), .val (.int ex21), .val (.ref ec), .val (.int (Int32.ofNat 0)), .val (.int (Int32.ofNat 1)), .unset, .unset] [])) _
      exact k_)
  have hST0 : own_ST ca48 (own_mput (fun _ => none) (own_key (Int32.ofNat 0) pb9) (((fun _ => none) (own_key (Int32.ofNat 0) pb9)).getD (0 : Int64) + (k2 + (1 : Int64)))) (fun _ => 0) 0 := own_ST.start (fun i hi => by rw [HA48.1 i (Or.inr (by omega))])
  have hn0_ : (own_nn (fun _ => none) (own_key (Int32.ofNat 0) pb9) 0) ≤ 1 := own_nn_le _ _ _
  obtain ⟨T53, h53, L53, G53, M53, nn53, X53, e53, N53, Z53, f62, f63, f64, f65, f66, hv53, pre53⟩ : ∃ (T53 : State) (h53 : Heap) (L53 : List Loc) (G53 : Nat → Value) (M53 : Int64 → Option Int64) (nn53 : Nat), Stand p l e room_1 s m #[(.int o1), (.int o2), (.int o3), (.long u1), (.long u2), (.long u3)] below meth c T53 L53 12 160 ∧ T53.heap = h53 ∧ Fr n0 L53 ∧ n0 ≤ h53.size ∧ Exa Z h53 ec "com/example/headwater/headwater/headdriven/EventCounts" ∧ Fld Z h53 ec "com/example/headwater/headwater/headdriven/EventCounts" "m_aNodeCounts" "[J" (.ref nc) ∧ Fld Z h53 ec "com/example/headwater/headwater/headdriven/EventCounts" "m_aPairs" "Lcom/example/headwater/headwater/headdriven/LongMap;" (.ref pm) ∧ own_LM Z h53 pm psl pus M53 nn53 ∧ OArr Z h53 nc .long 64 G53 ∧ (∃ c : Nat → Int64, (∀ i, i < 64 → G53 i = (fun i => Value.long (c i)) i) ∧ own_ST c M53 (own_T1 (fun _ => (0 : Int)) o1 k1.toInt) (0 + k1.toInt) ∧ nn53 ≤ 2) ∧ ∀ t_, Steps p.tables e below (T53.setTop (mkF m 158 #[.val (.int o1), .val (.int o2), .val (.int o3), .val (.long u1), .second, .val (.long u2), .second, .val (.long u3), .second, .val (.long k1), .second, .val (.long k2), .second, .val (.long k3), .second, .val (.int se), .val (.int pb9), .val (.int pc15), .val (.int ex21), .val (.ref ec), .val (.int (Int32.ofNat 0)), .val (.int (Int32.ofNat 1)), .unset, .unset] [])) t_ → Steps p.tables e below (s₁.setTop (entryFrame m #[(.int o1), (.int o2), (.int o3), (.long u1), (.long u2), (.long u3)] maxLocals)) t_ := by
    have pre54 : ∀ t_, Steps p.tables e below (T48.setTop (mkF m 145 #[.val (.int o1), .val (.int o2), .val (.int o3), .val (.long u1), .second, .val (.long u2), .second, .val (.long u3), .second, .val (.long k1), .second, .val (.long k2), .second, .val (.long k3), .second, .val (.int se), .val (.int pb9), .val (.int pc15), .val (.int ex21), .val (.ref ec), .val (.int (Int32.ofNat 0)), .val (.int (Int32.ofNat 1)), .unset, .unset] [(.int (lcmpW k1 (0 : Int64)))])) t_ → Steps p.tables e below (s₁.setTop (entryFrame m #[(.int o1), (.int o2), (.int o3), (.long u1), (.long u2), (.long u3)] maxLocals)) t_ := fun t_ k_ => pre52 t_ (by
        refine XS.lload X48.here hx rfl (hb hby at_141) rfl ?_
        show Steps p.tables e below (T48.setTop (mkF m 143 #[.val (.int o1), .val (.int o2), .val (.int o3), .val (.long u1), .second, .val (.long u2), .second, .val (.long u3), .second, .val (.long k1), .second, .val (.long k2), .second, .val (.long k3), .second, .val (.int se), .val (.int pb9), .val (.int pc15), .val (.int ex21), .val (.ref ec), .val (.int (Int32.ofNat 0)), .val (.int (Int32.ofNat 1)), .unset, .unset] [(.long k1)])) _
        refine XS.lconst X48.here hx rfl (hb hby at_143) ?_
        show Steps p.tables e below (T48.setTop (mkF m 144 #[.val (.int o1), .val (.int o2), .val (.int o3), .val (.long u1), .second, .val (.long u2), .second, .val (.long u3), .second, .val (.long k1), .second, .val (.long k2), .second, .val (.long k3), .second, .val (.int se), .val (.int pb9), .val (.int pc15), .val (.int ex21), .val (.ref ec), .val (.int (Int32.ofNat 0)), .val (.int (Int32.ofNat 1)), .unset, .unset] [(.long (0 : Int64)), (.long k1)])) _
        refine XS.lcmp X48.here hx rfl (hb hby at_144) rfl ?_
        show Steps p.tables e below (T48.setTop (mkF m 145 #[.val (.int o1), .val (.int o2), .val (.int o3), .val (.long u1), .second, .val (.long u2), .second, .val (.long u3), .second, .val (.long k1), .second, .val (.long k2), .second, .val (.long k3), .second, .val (.int se), .val (.int pb9), .val (.int pc15), .val (.int ex21), .val (.ref ec), .val (.int (Int32.ofNat 0)), .val (.int (Int32.ofNat 1)), .unset, .unset] [(.int (lcmpW k1 (0 : Int64)))])) _
        exact k_)
    by_cases c145_55 : (lcmpW k1 (0 : Int64)) = (0 : Int32)
    · have pre56 : ∀ t_, Steps p.tables e below (T48.setTop (mkF m 158 #[.val (.int o1), .val (.int o2), .val (.int o3), .val (.long u1), .second, .val (.long u2), .second, .val (.long u3), .second, .val (.long k1), .second, .val (.long k2), .second, .val (.long k3), .second, .val (.int se), .val (.int pb9), .val (.int pc15), .val (.int ex21), .val (.ref ec), .val (.int (Int32.ofNat 0)), .val (.int (Int32.ofNat 1)), .unset, .unset] [])) t_ → Steps p.tables e below (s₁.setTop (entryFrame m #[(.int o1), (.int o2), (.int o3), (.long u1), (.long u2), (.long u3)] maxLocals)) t_ := fun t_ k_ => pre54 t_ (by
          refine XS.ifYes X48.here hx rfl (pc0 := 145) (pc' := 158) rfl (hb hby at_145) rfl ((if0 _ _).trans (teq c145_55).1) (by decide) (by decide) ?_
          show Steps p.tables e below (T48.setTop (mkF m 158 #[.val (.int o1), .val (.int o2), .val (.int o3), .val (.long u1), .second, .val (.long u2), .second, .val (.long u3), .second, .val (.long k1), .second, .val (.long k2), .second, .val (.long k3), .second, .val (.int se), .val (.int pb9), .val (.int pc15), .val (.int ex21), .val (.ref ec), .val (.int (Int32.ofNat 0)), .val (.int (Int32.ofNat 1)), .unset, .unset] [])) _
          exact k_)
      exact ⟨T48, T48.heap, _, (fun i => .long (ca48 i)), (own_mput (fun _ => none) (own_key (Int32.ofNat 0) pb9) (((fun _ => none) (own_key (Int32.ofNat 0) pb9)).getD (0 : Int64) + (k2 + (1 : Int64)))), (own_nn (fun _ => none) (own_key (Int32.ofNat 0) pb9) 0), X48, rfl, N48, Z48, f49, f50, f51, LMa48, Aa48, ⟨ca48, fun _ _ => rfl, hST0.zero o1 (own_lceq c145_55), by omega⟩, pre56⟩
    · obtain ⟨cq57, kq57, q57a, q57b, q57c⟩ := isOf hZ rfl f49
      obtain ⟨_, _, ⟨T57, L57, k57, n57⟩, -, X57, ⟨Lc57, hQ57, l57, y57, z57⟩, st57⟩ := X48.virtualBack hx (y := (⟨"com/example/headwater/headwater/headdriven/EventCounts", "add", "(IIJ)V"⟩ : MethodName)) (z := (⟨"com/example/headwater/headwater/headdriven/EventCounts", "add", "(IIJ)V"⟩ : MethodName)) hown (mvT hZ (hw _ (List.mem_of_getElem? (i := 93) rfl))) (mvT hZ (hw _ (List.mem_of_getElem? (i := 94) rfl))) (notFace_of_selects (args := #[]) (mvT hZ (hw _ (List.mem_of_getElem? (i := 96) rfl)))) (mvT hZ (hw _ (List.mem_of_getElem? (i := 96) rfl))) (mvT hZ (hw _ (List.mem_of_getElem? (i := 95) rfl))) (by decide) (backOf (W := 0) (rmD l Z a0 hw [] ec ((Int32.ofNat 1)) o1 k1 1 nc pm psl pus ca48 (own_mput (fun _ => none) (own_key (Int32.ofNat 0) pb9) (((fun _ => none) (own_key (Int32.ofNat 0) pb9)).getD (0 : Int64) + (k2 + (1 : Int64)))) (own_nn (fun _ => none) (own_key (Int32.ofNat 0) pb9) 0) T48.heap n0 Z48 f50 f51 Aa48 LMa48 (by omega) rfl (by decide) (own_keyF _ (by decide)) (own_pos r1 c145_55) hST0.2.2.1 (by have q := hST0.2.2.2.1; have := r1.2; have := r2.2; have := r3.2; show (ca48 4).toInt + _ < _; omega) (by rw [hST0.2.1 o1]; exact hST0.1.1 o1) (by rw [hST0.2.1 o1]; have q := hST0.2.2.2.2 o1; have := r1.2; have := r2.2; have := r3.2; omega) dd_a1_nc dd_a1_pm dd_a1_psl dd_a1_pus dd_nc_pm dd_nc_psl dd_nc_pus dd_pm_psl dd_pm_pus dd_psl_pus gg_nc gg_pm gg_psl gg_pus) hZ (hw _ (List.mem_of_getElem? (i := 97) rfl)) (hw _ (List.mem_of_getElem? (i := 4) rfl)) (by decide) (by decide)) q57a q57c (g := (mkF m 155 #[.val (.int o1), .val (.int o2), .val (.int o3), .val (.long u1), .second, .val (.long u2), .second, .val (.long u3), .second, .val (.long k1), .second, .val (.long k2), .second, .val (.long k3), .second, .val (.int se), .val (.int pb9), .val (.int pc15), .val (.int ex21), .val (.ref ec), .val (.int (Int32.ofNat 0)), .val (.int (Int32.ofNat 1)), .unset, .unset] [(.long k1), (.int o1), (.int (Int32.ofNat 1)), (.ref ec)])) rfl (by rw [hml]; rfl) (Steps.refl _) (argsL := [(.int (Int32.ofNat 1)), (.int o1), (.long k1)]) (rest := []) (lenOf pd0_2 rfl) rfl (by show 2 * 0 + _ ≤ _; exact Nat.le_of_eq rfl) (hb hby at_155) (fun _ _ => ⟨rfl, rfl, (by decide : 12 + 0 ≤ _), (by decide : 160 + 0 ≤ _)⟩)
      dsimp only [Pt.U, Pt.locs, Pt.cells, Pt.slots] at X57 l57 y57 z57 st57 hQ57
      subst l57 y57 z57
      obtain ⟨rfl, N57q, K57, LMa57, ca57, Aa57, HA57⟩ := hQ57
      have N57 := Fr.app N48 N57q
      have f58 := f49.keep K57
      have f59 := f50.keep K57 (ninS dd_a1_nc (ninS dd_a1_pm (ninS dd_a1_psl (ninS dd_a1_pus nin0))))
      have f60 := f51.keep K57 (ninS dd_a1_nc (ninS dd_a1_pm (ninS dd_a1_psl (ninS dd_a1_pus nin0))))
      have Z57 : n0 ≤ T57.heap.size := Nat.le_trans Z48 K57.1
      have pre61 : ∀ t_, Steps p.tables e below (T57.setTop (mkF m 158 #[.val (.int o1), .val (.int o2), .val (.int o3), .val (.long u1), .second, .val (.long u2), .second, .val (.long u3), .second, .val (.long k1), .second, .val (.long k2), .second, .val (.long k3), .second, .val (.int se), .val (.int pb9), .val (.int pc15), .val (.int ex21), .val (.ref ec), .val (.int (Int32.ofNat 0)), .val (.int (Int32.ofNat 1)), .unset, .unset] [])) t_ → Steps p.tables e below (s₁.setTop (entryFrame m #[(.int o1), (.int o2), (.int o3), (.long u1), (.long u2), (.long u3)] maxLocals)) t_ := fun t_ k_ => pre54 t_ (by
          refine XS.ifNo X48.here hx rfl (hb hby at_145) rfl ((if0 _ _).trans (feq c145_55).1) ?_
          show Steps p.tables e below (T48.setTop (mkF m 148 #[.val (.int o1), .val (.int o2), .val (.int o3), .val (.long u1), .second, .val (.long u2), .second, .val (.long u3), .second, .val (.long k1), .second, .val (.long k2), .second, .val (.long k3), .second, .val (.int se), .val (.int pb9), .val (.int pc15), .val (.int ex21), .val (.ref ec), .val (.int (Int32.ofNat 0)), .val (.int (Int32.ofNat 1)), .unset, .unset] [])) _
          refine XS.aload X48.here hx rfl (hb hby at_148) rfl rfl ?_
          show Steps p.tables e below (T48.setTop (mkF m 150 #[.val (.int o1), .val (.int o2), .val (.int o3), .val (.long u1), .second, .val (.long u2), .second, .val (.long u3), .second, .val (.long k1), .second, .val (.long k2), .second, .val (.long k3), .second, .val (.int se), .val (.int pb9), .val (.int pc15), .val (.int ex21), .val (.ref ec), .val (.int (Int32.ofNat 0)), .val (.int (Int32.ofNat 1)), .unset, .unset] [(.ref ec)])) _
          refine XS.iload X48.here hx rfl (hb hby at_150) rfl ?_
          show Steps p.tables e below (T48.setTop (mkF m 152 #[.val (.int o1), .val (.int o2), .val (.int o3), .val (.long u1), .second, .val (.long u2), .second, .val (.long u3), .second, .val (.long k1), .second, .val (.long k2), .second, .val (.long k3), .second, .val (.int se), .val (.int pb9), .val (.int pc15), .val (.int ex21), .val (.ref ec), .val (.int (Int32.ofNat 0)), .val (.int (Int32.ofNat 1)), .unset, .unset] [(.int (Int32.ofNat 1)), (.ref ec)])) _
          refine XS.iloadN X48.here hx rfl (hb hby at_152) rfl ?_
          show Steps p.tables e below (T48.setTop (mkF m 153 #[.val (.int o1), .val (.int o2), .val (.int o3), .val (.long u1), .second, .val (.long u2), .second, .val (.long u3), .second, .val (.long k1), .second, .val (.long k2), .second, .val (.long k3), .second, .val (.int se), .val (.int pb9), .val (.int pc15), .val (.int ex21), .val (.ref ec), .val (.int (Int32.ofNat 0)), .val (.int (Int32.ofNat 1)), .unset, .unset] [(.int o1), (.int (Int32.ofNat 1)), (.ref ec)])) _
          refine XS.lload X48.here hx rfl (hb hby at_153) rfl ?_
          show Steps p.tables e below (T48.setTop (mkF m 155 #[.val (.int o1), .val (.int o2), .val (.int o3), .val (.long u1), .second, .val (.long u2), .second, .val (.long u3), .second, .val (.long k1), .second, .val (.long k2), .second, .val (.long k3), .second, .val (.int se), .val (.int pb9), .val (.int pc15), .val (.int ex21), .val (.ref ec), .val (.int (Int32.ofNat 0)), .val (.int (Int32.ofNat 1)), .unset, .unset] [(.long k1), (.int o1), (.int (Int32.ofNat 1)), (.ref ec)])) _
          refine st57.trans ?_
          show Steps p.tables e below (T57.setTop (mkF m 158 #[.val (.int o1), .val (.int o2), .val (.int o3), .val (.long u1), .second, .val (.long u2), .second, .val (.long u3), .second, .val (.long k1), .second, .val (.long k2), .second, .val (.long k3), .second, .val (.int se), .val (.int pb9), .val (.int pc15), .val (.int ex21), .val (.ref ec), .val (.int (Int32.ofNat 0)), .val (.int (Int32.ofNat 1)), .unset, .unset] [])) _
          exact k_)
      exact ⟨T57, T57.heap, _, (fun i => .long (ca57 i)), (own_mput (own_mput (fun _ => none) (own_key (Int32.ofNat 0) pb9) (((fun _ => none) (own_key (Int32.ofNat 0) pb9)).getD (0 : Int64) + (k2 + (1 : Int64)))) (own_key (Int32.ofNat 1) o1) (((own_mput (fun _ => none) (own_key (Int32.ofNat 0) pb9) (((fun _ => none) (own_key (Int32.ofNat 0) pb9)).getD (0 : Int64) + (k2 + (1 : Int64)))) (own_key (Int32.ofNat 1) o1)).getD (0 : Int64) + k1)), (own_nn (own_mput (fun _ => none) (own_key (Int32.ofNat 0) pb9) (((fun _ => none) (own_key (Int32.ofNat 0) pb9)).getD (0 : Int64) + (k2 + (1 : Int64)))) (own_key (Int32.ofNat 1) o1) (own_nn (fun _ => none) (own_key (Int32.ofNat 0) pb9) 0)), X57, rfl, N57, Z57, f58, f59, f60, LMa57, Aa57, ⟨ca57, fun _ _ => rfl, hST0.add (own_pos r1 c145_55) (by have := r1.2; have := r2.2; have := r3.2; omega) HA57, Nat.le_trans (own_nn_le _ _ _) (by omega)⟩, pre61⟩
  obtain ⟨cx53, hcx53, hST53, hnx53⟩ := hv53
  have Ax53 := f66.congr hcx53
  obtain ⟨T67, h67, L67, G67, M67, nn67, X67, e67, N67, Z67, f76, f77, f78, f79, f80, hv67, pre67⟩ : ∃ (T67 : State) (h67 : Heap) (L67 : List Loc) (G67 : Nat → Value) (M67 : Int64 → Option Int64) (nn67 : Nat), Stand p l e room_1 s m #[(.int o1), (.int o2), (.int o3), (.long u1), (.long u2), (.long u3)] below meth c T67 L67 12 160 ∧ T67.heap = h67 ∧ Fr n0 L67 ∧ n0 ≤ h67.size ∧ Exa Z h67 ec "com/example/headwater/headwater/headdriven/EventCounts" ∧ Fld Z h67 ec "com/example/headwater/headwater/headdriven/EventCounts" "m_aNodeCounts" "[J" (.ref nc) ∧ Fld Z h67 ec "com/example/headwater/headwater/headdriven/EventCounts" "m_aPairs" "Lcom/example/headwater/headwater/headdriven/LongMap;" (.ref pm) ∧ own_LM Z h67 pm psl pus M67 nn67 ∧ OArr Z h67 nc .long 64 G67 ∧ (∃ c : Nat → Int64, (∀ i, i < 64 → G67 i = (fun i => Value.long (c i)) i) ∧ own_ST c M67 (own_T1 (own_T1 (fun _ => (0 : Int)) o1 k1.toInt) pb9 k2.toInt) ((0 + k1.toInt) + k2.toInt) ∧ nn67 ≤ 3) ∧ ∀ t_, Steps p.tables e below (T67.setTop (mkF m 176 #[.val (.int o1), .val (.int o2), .val (.int o3), .val (.long u1), .second, .val (.long u2), .second, .val (.long u3), .second, .val (.long k1), .second, .val (.long k2), .second, .val (.long k3), .second, .val (.int se), .val (.int pb9), .val (.int pc15), .val (.int ex21), .val (.ref ec), .val (.int (Int32.ofNat 0)), .val (.int (Int32.ofNat 1)), .unset, .unset] [])) t_ → Steps p.tables e below (s₁.setTop (entryFrame m #[(.int o1), (.int o2), (.int o3), (.long u1), (.long u2), (.long u3)] maxLocals)) t_ := by
    have pre68 : ∀ t_, Steps p.tables e below (T53.setTop (mkF m 162 #[.val (.int o1), .val (.int o2), .val (.int o3), .val (.long u1), .second, .val (.long u2), .second, .val (.long u3), .second, .val (.long k1), .second, .val (.long k2), .second, .val (.long k3), .second, .val (.int se), .val (.int pb9), .val (.int pc15), .val (.int ex21), .val (.ref ec), .val (.int (Int32.ofNat 0)), .val (.int (Int32.ofNat 1)), .unset, .unset] [(.int (lcmpW k2 (0 : Int64)))])) t_ → Steps p.tables e below (s₁.setTop (entryFrame m #[(.int o1), (.int o2), (.int o3), (.long u1), (.long u2), (.long u3)] maxLocals)) t_ := fun t_ k_ => pre53 t_ (by
        refine XS.lload X53.here hx rfl (hb hby at_158) rfl ?_
        show Steps p.tables e below (T53.setTop (mkF m 160 #[.val (.int o1), .val (.int o2), .val (.int o3), .val (.long u1), .second, .val (.long u2), .second, .val (.long u3), .second, .val (.long k1), .second, .val (.long k2), .second, .val (.long k3), .second, .val (.int se), .val (.int pb9), .val (.int pc15), .val (.int ex21), .val (.ref ec), .val (.int (Int32.ofNat 0)), .val (.int (Int32.ofNat 1)), .unset, .unset] [(.long k2)])) _
        refine XS.lconst X53.here hx rfl (hb hby at_160) ?_
        show Steps p.tables e below (T53.setTop (mkF m 161 #[.val (.int o1), .val (.int o2), .val (.int o3), .val (.long u1), .second, .val (.long u2), .second, .val (.long u3), .second, .val (.long k1), .second, .val (.long k2), .second, .val (.long k3), .second, .val (.int se), .val (.int pb9), .val (.int pc15), .val (.int ex21), .val (.ref ec), .val (.int (Int32.ofNat 0)), .val (.int (Int32.ofNat 1)), .unset, .unset] [(.long (0 : Int64)), (.long k2)])) _
        refine XS.lcmp X53.here hx rfl (hb hby at_161) rfl ?_
        show Steps p.tables e below (T53.setTop (mkF m 162 #[.val (.int o1), .val (.int o2), .val (.int o3), .val (.long u1), .second, .val (.long u2), .second, .val (.long u3), .second, .val (.long k1), .second, .val (.long k2), .second, .val (.long k3), .second, .val (.int se), .val (.int pb9), .val (.int pc15), .val (.int ex21), .val (.ref ec), .val (.int (Int32.ofNat 0)), .val (.int (Int32.ofNat 1)), .unset, .unset] [(.int (lcmpW k2 (0 : Int64)))])) _
        exact k_)
    by_cases c162_69 : (lcmpW k2 (0 : Int64)) = (0 : Int32)
    · have pre70 : ∀ t_, Steps p.tables e below (T53.setTop (mkF m 176 #[.val (.int o1), .val (.int o2), .val (.int o3), .val (.long u1), .second, .val (.long u2), .second, .val (.long u3), .second, .val (.long k1), .second, .val (.long k2), .second, .val (.long k3), .second, .val (.int se), .val (.int pb9), .val (.int pc15), .val (.int ex21), .val (.ref ec), .val (.int (Int32.ofNat 0)), .val (.int (Int32.ofNat 1)), .unset, .unset] [])) t_ → Steps p.tables e below (s₁.setTop (entryFrame m #[(.int o1), (.int o2), (.int o3), (.long u1), (.long u2), (.long u3)] maxLocals)) t_ := fun t_ k_ => pre68 t_ (by
          refine XS.ifYes X53.here hx rfl (pc0 := 162) (pc' := 176) rfl (hb hby at_162) rfl ((if0 _ _).trans (teq c162_69).1) (by decide) (by decide) ?_
          show Steps p.tables e below (T53.setTop (mkF m 176 #[.val (.int o1), .val (.int o2), .val (.int o3), .val (.long u1), .second, .val (.long u2), .second, .val (.long u3), .second, .val (.long k1), .second, .val (.long k2), .second, .val (.long k3), .second, .val (.int se), .val (.int pb9), .val (.int pc15), .val (.int ex21), .val (.ref ec), .val (.int (Int32.ofNat 0)), .val (.int (Int32.ofNat 1)), .unset, .unset] [])) _
          exact k_)
      exact ⟨T53, h53, _, (fun i => .long (cx53 i)), M53, nn53, X53, e53, N53, Z53, f62, f63, f64, f65, Ax53, ⟨cx53, fun _ _ => rfl, hST53.zero pb9 (own_lceq c162_69), by omega⟩, pre70⟩
    · obtain ⟨cq71, kq71, q71a, q71b, q71c⟩ := isOf hZ e53 f62
      obtain ⟨_, _, ⟨T71, L71, k71, n71⟩, -, X71, ⟨Lc71, hQ71, l71, y71, z71⟩, st71⟩ := X53.virtualBack hx (y := (⟨"com/example/headwater/headwater/headdriven/EventCounts", "add", "(IIJ)V"⟩ : MethodName)) (z := (⟨"com/example/headwater/headwater/headdriven/EventCounts", "add", "(IIJ)V"⟩ : MethodName)) hown (mvT hZ (hw _ (List.mem_of_getElem? (i := 93) rfl))) (mvT hZ (hw _ (List.mem_of_getElem? (i := 94) rfl))) (notFace_of_selects (args := #[]) (mvT hZ (hw _ (List.mem_of_getElem? (i := 96) rfl)))) (mvT hZ (hw _ (List.mem_of_getElem? (i := 96) rfl))) (mvT hZ (hw _ (List.mem_of_getElem? (i := 95) rfl))) (by decide) (backOf (W := 0) (rmD l Z a0 hw [] ec ((Int32.ofNat 1)) pb9 k2 1 nc pm psl pus cx53 M53 nn53 h53 n0 Z53 f63 f64 Ax53 f65 (by omega) rfl (by decide) (own_keyF _ (by decide)) (own_pos r2 c162_69) hST53.2.2.1 (by have q := hST53.2.2.2.1; have := r1.2; have := r2.2; have := r3.2; show (cx53 4).toInt + _ < _; omega) (by rw [hST53.2.1 pb9]; exact hST53.1.1 pb9) (by rw [hST53.2.1 pb9]; have q := hST53.2.2.2.2 pb9; have := r1.2; have := r2.2; have := r3.2; omega) dd_a1_nc dd_a1_pm dd_a1_psl dd_a1_pus dd_nc_pm dd_nc_psl dd_nc_pus dd_pm_psl dd_pm_pus dd_psl_pus gg_nc gg_pm gg_psl gg_pus) hZ (hw _ (List.mem_of_getElem? (i := 97) rfl)) (hw _ (List.mem_of_getElem? (i := 4) rfl)) (by decide) (by decide)) q71a q71c (g := (mkF m 173 #[.val (.int o1), .val (.int o2), .val (.int o3), .val (.long u1), .second, .val (.long u2), .second, .val (.long u3), .second, .val (.long k1), .second, .val (.long k2), .second, .val (.long k3), .second, .val (.int se), .val (.int pb9), .val (.int pc15), .val (.int ex21), .val (.ref ec), .val (.int (Int32.ofNat 0)), .val (.int (Int32.ofNat 1)), .unset, .unset] [(.long k2), (.int pb9), (.int (Int32.ofNat 1)), (.ref ec)])) rfl (by rw [hml]; rfl) (Steps.refl _) (argsL := [(.int (Int32.ofNat 1)), (.int pb9), (.long k2)]) (rest := []) (lenOf pd0_2 rfl) rfl (by show 2 * 0 + _ ≤ _; exact Nat.le_of_eq rfl) (hb hby at_173) (fun _ _ => ⟨rfl, e53, (by decide : 12 + 0 ≤ _), (by decide : 160 + 0 ≤ _)⟩)
      dsimp only [Pt.U, Pt.locs, Pt.cells, Pt.slots] at X71 l71 y71 z71 st71 hQ71
      subst l71 y71 z71
      obtain ⟨rfl, N71q, K71, LMa71, ca71, Aa71, HA71⟩ := hQ71
      have N71 := Fr.app N53 N71q
      have f72 := f62.keep K71
      have f73 := f63.keep K71 (ninS dd_a1_nc (ninS dd_a1_pm (ninS dd_a1_psl (ninS dd_a1_pus nin0))))
      have f74 := f64.keep K71 (ninS dd_a1_nc (ninS dd_a1_pm (ninS dd_a1_psl (ninS dd_a1_pus nin0))))
      have Z71 : n0 ≤ T71.heap.size := Nat.le_trans Z53 K71.1
      have pre75 : ∀ t_, Steps p.tables e below (T71.setTop (mkF m 176 #[.val (.int o1), .val (.int o2), .val (.int o3), .val (.long u1), .second, .val (.long u2), .second, .val (.long u3), .second, .val (.long k1), .second, .val (.long k2), .second, .val (.long k3), .second, .val (.int se), .val (.int pb9), .val (.int pc15), .val (.int ex21), .val (.ref ec), .val (.int (Int32.ofNat 0)), .val (.int (Int32.ofNat 1)), .unset, .unset] [])) t_ → Steps p.tables e below (s₁.setTop (entryFrame m #[(.int o1), (.int o2), (.int o3), (.long u1), (.long u2), (.long u3)] maxLocals)) t_ := fun t_ k_ => pre68 t_ (by
          refine XS.ifNo X53.here hx rfl (hb hby at_162) rfl ((if0 _ _).trans (feq c162_69).1) ?_
          show Steps p.tables e below (T53.setTop (mkF m 165 #[.val (.int o1), .val (.int o2), .val (.int o3), .val (.long u1), .second, .val (.long u2), .second, .val (.long u3), .second, .val (.long k1), .second, .val (.long k2), .second, .val (.long k3), .second, .val (.int se), .val (.int pb9), .val (.int pc15), .val (.int ex21), .val (.ref ec), .val (.int (Int32.ofNat 0)), .val (.int (Int32.ofNat 1)), .unset, .unset] [])) _
          refine XS.aload X53.here hx rfl (hb hby at_165) rfl rfl ?_
          show Steps p.tables e below (T53.setTop (mkF m 167 #[.val (.int o1), .val (.int o2), .val (.int o3), .val (.long u1), .second, .val (.long u2), .second, .val (.long u3), .second, .val (.long k1), .second, .val (.long k2), .second, .val (.long k3), .second, .val (.int se), .val (.int pb9), .val (.int pc15), .val (.int ex21), .val (.ref ec), .val (.int (Int32.ofNat 0)), .val (.int (Int32.ofNat 1)), .unset, .unset] [(.ref ec)])) _
          refine XS.iload X53.here hx rfl (hb hby at_167) rfl ?_
          show Steps p.tables e below (T53.setTop (mkF m 169 #[.val (.int o1), .val (.int o2), .val (.int o3), .val (.long u1), .second, .val (.long u2), .second, .val (.long u3), .second, .val (.long k1), .second, .val (.long k2), .second, .val (.long k3), .second, .val (.int se), .val (.int pb9), .val (.int pc15), .val (.int ex21), .val (.ref ec), .val (.int (Int32.ofNat 0)), .val (.int (Int32.ofNat 1)), .unset, .unset] [(.int (Int32.ofNat 1)), (.ref ec)])) _
          refine XS.iload X53.here hx rfl (hb hby at_169) rfl ?_
          show Steps p.tables e below (T53.setTop (mkF m 171 #[.val (.int o1), .val (.int o2), .val (.int o3), .val (.long u1), .second, .val (.long u2), .second, .val (.long u3), .second, .val (.long k1), .second, .val (.long k2), .second, .val (.long k3), .second, .val (.int se), .val (.int pb9), .val (.int pc15), .val (.int ex21), .val (.ref ec), .val (.int (Int32.ofNat 0)), .val (.int (Int32.ofNat 1)), .unset, .unset] [(.int pb9), (.int (Int32.ofNat 1)), (.ref ec)])) _
          refine XS.lload X53.here hx rfl (hb hby at_171) rfl ?_
          show Steps p.tables e below (T53.setTop (mkF m 173 #[.val (.int o1), .val (.int o2), .val (.int o3), .val (.long u1), .second, .val (.long u2), .second, .val (.long u3), .second, .val (.long k1), .second, .val (.long k2), .second, .val (.long k3), .second, .val (.int se), .val (.int pb9), .val (.int pc15), .val (.int ex21), .val (.ref ec), .val (.int (Int32.ofNat 0)), .val (.int (Int32.ofNat 1)), .unset, .unset] [(.long k2), (.int pb9), (.int (Int32.ofNat 1)), (.ref ec)])) _
          refine st71.trans ?_
          show Steps p.tables e below (T71.setTop (mkF m 176 #[.val (.int o1), .val (.int o2), .val (.int o3), .val (.long u1), .second, .val (.long u2), .second, .val (.long u3), .second, .val (.long k1), .second, .val (.long k2), .second, .val (.long k3), .second, .val (.int se), .val (.int pb9), .val (.int pc15), .val (.int ex21), .val (.ref ec), .val (.int (Int32.ofNat 0)), .val (.int (Int32.ofNat 1)), .unset, .unset] [])) _
          exact k_)
      exact ⟨T71, T71.heap, _, (fun i => .long (ca71 i)), (own_mput M53 (own_key (Int32.ofNat 1) pb9) ((M53 (own_key (Int32.ofNat 1) pb9)).getD (0 : Int64) + k2)), (own_nn M53 (own_key (Int32.ofNat 1) pb9) nn53), X71, rfl, N71, Z71, f72, f73, f74, LMa71, Aa71, ⟨ca71, fun _ _ => rfl, hST53.add (own_pos r2 c162_69) (by have := r1.2; have := r2.2; have := r3.2; omega) HA71, Nat.le_trans (own_nn_le _ _ _) (by omega)⟩, pre75⟩
  obtain ⟨cx67, hcx67, hST67, hnx67⟩ := hv67
  have Ax67 := f80.congr hcx67
  obtain ⟨T81, h81, L81, G81, M81, nn81, X81, e81, N81, Z81, f90, f91, f92, f93, f94, hv81, pre81⟩ : ∃ (T81 : State) (h81 : Heap) (L81 : List Loc) (G81 : Nat → Value) (M81 : Int64 → Option Int64) (nn81 : Nat), Stand p l e room_1 s m #[(.int o1), (.int o2), (.int o3), (.long u1), (.long u2), (.long u3)] below meth c T81 L81 12 160 ∧ T81.heap = h81 ∧ Fr n0 L81 ∧ n0 ≤ h81.size ∧ Exa Z h81 ec "com/example/headwater/headwater/headdriven/EventCounts" ∧ Fld Z h81 ec "com/example/headwater/headwater/headdriven/EventCounts" "m_aNodeCounts" "[J" (.ref nc) ∧ Fld Z h81 ec "com/example/headwater/headwater/headdriven/EventCounts" "m_aPairs" "Lcom/example/headwater/headwater/headdriven/LongMap;" (.ref pm) ∧ own_LM Z h81 pm psl pus M81 nn81 ∧ OArr Z h81 nc .long 64 G81 ∧ (∃ c : Nat → Int64, (∀ i, i < 64 → G81 i = (fun i => Value.long (c i)) i) ∧ own_ST c M81 (own_T1 (own_T1 (own_T1 (fun _ => (0 : Int)) o1 k1.toInt) pb9 k2.toInt) pc15 k3.toInt) (((0 + k1.toInt) + k2.toInt) + k3.toInt) ∧ nn81 ≤ 4) ∧ ∀ t_, Steps p.tables e below (T81.setTop (mkF m 194 #[.val (.int o1), .val (.int o2), .val (.int o3), .val (.long u1), .second, .val (.long u2), .second, .val (.long u3), .second, .val (.long k1), .second, .val (.long k2), .second, .val (.long k3), .second, .val (.int se), .val (.int pb9), .val (.int pc15), .val (.int ex21), .val (.ref ec), .val (.int (Int32.ofNat 0)), .val (.int (Int32.ofNat 1)), .unset, .unset] [])) t_ → Steps p.tables e below (s₁.setTop (entryFrame m #[(.int o1), (.int o2), (.int o3), (.long u1), (.long u2), (.long u3)] maxLocals)) t_ := by
    have pre82 : ∀ t_, Steps p.tables e below (T67.setTop (mkF m 180 #[.val (.int o1), .val (.int o2), .val (.int o3), .val (.long u1), .second, .val (.long u2), .second, .val (.long u3), .second, .val (.long k1), .second, .val (.long k2), .second, .val (.long k3), .second, .val (.int se), .val (.int pb9), .val (.int pc15), .val (.int ex21), .val (.ref ec), .val (.int (Int32.ofNat 0)), .val (.int (Int32.ofNat 1)), .unset, .unset] [(.int (lcmpW k3 (0 : Int64)))])) t_ → Steps p.tables e below (s₁.setTop (entryFrame m #[(.int o1), (.int o2), (.int o3), (.long u1), (.long u2), (.long u3)] maxLocals)) t_ := fun t_ k_ => pre67 t_ (by
        refine XS.lload X67.here hx rfl (hb hby at_176) rfl ?_
        show Steps p.tables e below (T67.setTop (mkF m 178 #[.val (.int o1), .val (.int o2), .val (.int o3), .val (.long u1), .second, .val (.long u2), .second, .val (.long u3), .second, .val (.long k1), .second, .val (.long k2), .second, .val (.long k3), .second, .val (.int se), .val (.int pb9), .val (.int pc15), .val (.int ex21), .val (.ref ec), .val (.int (Int32.ofNat 0)), .val (.int (Int32.ofNat 1)), .unset, .unset] [(.long k3)])) _
        refine XS.lconst X67.here hx rfl (hb hby at_178) ?_
        show Steps p.tables e below (T67.setTop (mkF m 179 #[.val (.int o1), .val (.int o2), .val (.int o3), .val (.long u1), .second, .val (.long u2), .second, .val (.long u3), .second, .val (.long k1), .second, .val (.long k2), .second, .val (.long k3), .second, .val (.int se), .val (.int pb9), .val (.int pc15), .val (.int ex21), .val (.ref ec), .val (.int (Int32.ofNat 0)), .val (.int (Int32.ofNat 1)), .unset, .unset] [(.long (0 : Int64)), (.long k3)])) _
        refine XS.lcmp X67.here hx rfl (hb hby at_179) rfl ?_
        show Steps p.tables e below (T67.setTop (mkF m 180 #[.val (.int o1), .val (.int o2), .val (.int o3), .val (.long u1), .second, .val (.long u2), .second, .val (.long u3), .second, .val (.long k1), .second, .val (.long k2), .second, .val (.long k3), .second, .val (.int se), .val (.int pb9), .val (.int pc15), .val (.int ex21), .val (.ref ec), .val (.int (Int32.ofNat 0)), .val (.int (Int32.ofNat 1)), .unset, .unset] [(.int (lcmpW k3 (0 : Int64)))])) _
        exact k_)
    by_cases c180_83 : (lcmpW k3 (0 : Int64)) = (0 : Int32)
    · have pre84 : ∀ t_, Steps p.tables e below (T67.setTop (mkF m 194 #[.val (.int o1), .val (.int o2), .val (.int o3), .val (.long u1), .second, .val (.long u2), .second, .val (.long u3), .second, .val (.long k1), .second, .val (.long k2), .second, .val (.long k3), .second, .val (.int se), .val (.int pb9), .val (.int pc15), .val (.int ex21), .val (.ref ec), .val (.int (Int32.ofNat 0)), .val (.int (Int32.ofNat 1)), .unset, .unset] [])) t_ → Steps p.tables e below (s₁.setTop (entryFrame m #[(.int o1), (.int o2), (.int o3), (.long u1), (.long u2), (.long u3)] maxLocals)) t_ := fun t_ k_ => pre82 t_ (by
          refine XS.ifYes X67.here hx rfl (pc0 := 180) (pc' := 194) rfl (hb hby at_180) rfl ((if0 _ _).trans (teq c180_83).1) (by decide) (by decide) ?_
          show Steps p.tables e below (T67.setTop (mkF m 194 #[.val (.int o1), .val (.int o2), .val (.int o3), .val (.long u1), .second, .val (.long u2), .second, .val (.long u3), .second, .val (.long k1), .second, .val (.long k2), .second, .val (.long k3), .second, .val (.int se), .val (.int pb9), .val (.int pc15), .val (.int ex21), .val (.ref ec), .val (.int (Int32.ofNat 0)), .val (.int (Int32.ofNat 1)), .unset, .unset] [])) _
          exact k_)
      exact ⟨T67, h67, _, (fun i => .long (cx67 i)), M67, nn67, X67, e67, N67, Z67, f76, f77, f78, f79, Ax67, ⟨cx67, fun _ _ => rfl, hST67.zero pc15 (own_lceq c180_83), by omega⟩, pre84⟩
    · obtain ⟨cq85, kq85, q85a, q85b, q85c⟩ := isOf hZ e67 f76
      obtain ⟨_, _, ⟨T85, L85, k85, n85⟩, -, X85, ⟨Lc85, hQ85, l85, y85, z85⟩, st85⟩ := X67.virtualBack hx (y := (⟨"com/example/headwater/headwater/headdriven/EventCounts", "add", "(IIJ)V"⟩ : MethodName)) (z := (⟨"com/example/headwater/headwater/headdriven/EventCounts", "add", "(IIJ)V"⟩ : MethodName)) hown (mvT hZ (hw _ (List.mem_of_getElem? (i := 93) rfl))) (mvT hZ (hw _ (List.mem_of_getElem? (i := 94) rfl))) (notFace_of_selects (args := #[]) (mvT hZ (hw _ (List.mem_of_getElem? (i := 96) rfl)))) (mvT hZ (hw _ (List.mem_of_getElem? (i := 96) rfl))) (mvT hZ (hw _ (List.mem_of_getElem? (i := 95) rfl))) (by decide) (backOf (W := 0) (rmD l Z a0 hw [] ec ((Int32.ofNat 1)) pc15 k3 1 nc pm psl pus cx67 M67 nn67 h67 n0 Z67 f77 f78 Ax67 f79 (by omega) rfl (by decide) (own_keyF _ (by decide)) (own_pos r3 c180_83) hST67.2.2.1 (by have q := hST67.2.2.2.1; have := r1.2; have := r2.2; have := r3.2; show (cx67 4).toInt + _ < _; omega) (by rw [hST67.2.1 pc15]; exact hST67.1.1 pc15) (by rw [hST67.2.1 pc15]; have q := hST67.2.2.2.2 pc15; have := r1.2; have := r2.2; have := r3.2; omega) dd_a1_nc dd_a1_pm dd_a1_psl dd_a1_pus dd_nc_pm dd_nc_psl dd_nc_pus dd_pm_psl dd_pm_pus dd_psl_pus gg_nc gg_pm gg_psl gg_pus) hZ (hw _ (List.mem_of_getElem? (i := 97) rfl)) (hw _ (List.mem_of_getElem? (i := 4) rfl)) (by decide) (by decide)) q85a q85c (g := (mkF m 191 #[.val (.int o1), .val (.int o2), .val (.int o3), .val (.long u1), .second, .val (.long u2), .second, .val (.long u3), .second, .val (.long k1), .second, .val (.long k2), .second, .val (.long k3), .second, .val (.int se), .val (.int pb9), .val (.int pc15), .val (.int ex21), .val (.ref ec), .val (.int (Int32.ofNat 0)), .val (.int (Int32.ofNat 1)), .unset, .unset] [(.long k3), (.int pc15), (.int (Int32.ofNat 1)), (.ref ec)])) rfl (by rw [hml]; rfl) (Steps.refl _) (argsL := [(.int (Int32.ofNat 1)), (.int pc15), (.long k3)]) (rest := []) (lenOf pd0_2 rfl) rfl (by show 2 * 0 + _ ≤ _; exact Nat.le_of_eq rfl) (hb hby at_191) (fun _ _ => ⟨rfl, e67, (by decide : 12 + 0 ≤ _), (by decide : 160 + 0 ≤ _)⟩)
      dsimp only [Pt.U, Pt.locs, Pt.cells, Pt.slots] at X85 l85 y85 z85 st85 hQ85
      subst l85 y85 z85
      obtain ⟨rfl, N85q, K85, LMa85, ca85, Aa85, HA85⟩ := hQ85
      have N85 := Fr.app N67 N85q
      have f86 := f76.keep K85
      have f87 := f77.keep K85 (ninS dd_a1_nc (ninS dd_a1_pm (ninS dd_a1_psl (ninS dd_a1_pus nin0))))
      have f88 := f78.keep K85 (ninS dd_a1_nc (ninS dd_a1_pm (ninS dd_a1_psl (ninS dd_a1_pus nin0))))
      have Z85 : n0 ≤ T85.heap.size := Nat.le_trans Z67 K85.1
      have pre89 : ∀ t_, Steps p.tables e below (T85.setTop (mkF m 194 #[.val (.int o1), .val (.int o2), .val (.int o3), .val (.long u1), .second, .val (.long u2), .second, .val (.long u3), .second, .val (.long k1), .second, .val (.long k2), .second, .val (.long k3), .second, .val (.int se), .val (.int pb9), .val (.int pc15), .val (.int ex21), .val (.ref ec), .val (.int (Int32.ofNat 0)), .val (.int (Int32.ofNat 1)), .unset, .unset] [])) t_ → Steps p.tables e below (s₁.setTop (entryFrame m #[(.int o1), (.int o2), (.int o3), (.long u1), (.long u2), (.long u3)] maxLocals)) t_ := fun t_ k_ => pre82 t_ (by
          refine XS.ifNo X67.here hx rfl (hb hby at_180) rfl ((if0 _ _).trans (feq c180_83).1) ?_
          show Steps p.tables e below (T67.setTop (mkF m 183 #[.val (.int o1), .val (.int o2), .val (.int o3), .val (.long u1), .second, .val (.long u2), .second, .val (.long u3), .second, .val (.long k1), .second, .val (.long k2), .second, .val (.long k3), .second, .val (.int se), .val (.int pb9), .val (.int pc15), .val (.int ex21), .val (.ref ec), .val (.int (Int32.ofNat 0)), .val (.int (Int32.ofNat 1)), .unset, .unset] [])) _
          refine XS.aload X67.here hx rfl (hb hby at_183) rfl rfl ?_
          show Steps p.tables e below (T67.setTop (mkF m 185 #[.val (.int o1), .val (.int o2), .val (.int o3), .val (.long u1), .second, .val (.long u2), .second, .val (.long u3), .second, .val (.long k1), .second, .val (.long k2), .second, .val (.long k3), .second, .val (.int se), .val (.int pb9), .val (.int pc15), .val (.int ex21), .val (.ref ec), .val (.int (Int32.ofNat 0)), .val (.int (Int32.ofNat 1)), .unset, .unset] [(.ref ec)])) _
          refine XS.iload X67.here hx rfl (hb hby at_185) rfl ?_
          show Steps p.tables e below (T67.setTop (mkF m 187 #[.val (.int o1), .val (.int o2), .val (.int o3), .val (.long u1), .second, .val (.long u2), .second, .val (.long u3), .second, .val (.long k1), .second, .val (.long k2), .second, .val (.long k3), .second, .val (.int se), .val (.int pb9), .val (.int pc15), .val (.int ex21), .val (.ref ec), .val (.int (Int32.ofNat 0)), .val (.int (Int32.ofNat 1)), .unset, .unset] [(.int (Int32.ofNat 1)), (.ref ec)])) _
          refine XS.iload X67.here hx rfl (hb hby at_187) rfl ?_
          show Steps p.tables e below (T67.setTop (mkF m 189 #[.val (.int o1), .val (.int o2), .val (.int o3), .val (.long u1), .second, .val (.long u2), .second, .val (.long u3), .second, .val (.long k1), .second, .val (.long k2), .second, .val (.long k3), .second, .val (.int se), .val (.int pb9), .val (.int pc15), .val (.int ex21), .val (.ref ec), .val (.int (Int32.ofNat 0)), .val (.int (Int32.ofNat 1)), .unset, .unset] [(.int pc15), (.int (Int32.ofNat 1)), (.ref ec)])) _
          refine XS.lload X67.here hx rfl (hb hby at_189) rfl ?_
          show Steps p.tables e below (T67.setTop (mkF m 191 #[.val (.int o1), .val (.int o2), .val (.int o3), .val (.long u1), .second, .val (.long u2), .second, .val (.long u3), .second, .val (.long k1), .second, .val (.long k2), .second, .val (.long k3), .second, .val (.int se), .val (.int pb9), .val (.int pc15), .val (.int ex21), .val (.ref ec), .val (.int (Int32.ofNat 0)), .val (.int (Int32.ofNat 1)), .unset, .unset] [(.long k3), (.int pc15), (.int (Int32.ofNat 1)), (.ref ec)])) _
          refine st85.trans ?_
          show Steps p.tables e below (T85.setTop (mkF m 194 #[.val (.int o1), .val (.int o2), .val (.int o3), .val (.long u1), .second, .val (.long u2), .second, .val (.long u3), .second, .val (.long k1), .second, .val (.long k2), .second, .val (.long k3), .second, .val (.int se), .val (.int pb9), .val (.int pc15), .val (.int ex21), .val (.ref ec), .val (.int (Int32.ofNat 0)), .val (.int (Int32.ofNat 1)), .unset, .unset] [])) _
          exact k_)
      exact ⟨T85, T85.heap, _, (fun i => .long (ca85 i)), (own_mput M67 (own_key (Int32.ofNat 1) pc15) ((M67 (own_key (Int32.ofNat 1) pc15)).getD (0 : Int64) + k3)), (own_nn M67 (own_key (Int32.ofNat 1) pc15) nn67), X85, rfl, N85, Z85, f86, f87, f88, LMa85, Aa85, ⟨ca85, fun _ _ => rfl, hST67.add (own_pos r3 c180_83) (by have := r1.2; have := r2.2; have := r3.2; omega) HA85, Nat.le_trans (own_nn_le _ _ _) (by omega)⟩, pre89⟩
  obtain ⟨cx81, hcx81, hST81, hnx81⟩ := hv81
  have Ax81 := f94.congr hcx81
  have hX0 : own_EX (own_T1 (own_T1 (own_T1 (fun _ => (0 : Int)) o1 k1.toInt) pb9 k2.toInt) pc15 k3.toInt) ex21 (0 : Int64).toInt [] := own_EX.start _ _
  have pre95 : ∀ t_, Steps p.tables e below (T81.setTop (mkF m 197 #[.val (.int o1), .val (.int o2), .val (.int o3), .val (.long u1), .second, .val (.long u2), .second, .val (.long u3), .second, .val (.long k1), .second, .val (.long k2), .second, .val (.long k3), .second, .val (.int se), .val (.int pb9), .val (.int pc15), .val (.int ex21), .val (.ref ec), .val (.int (Int32.ofNat 0)), .val (.int (Int32.ofNat 1)), .val (.long (0 : Int64)), .second] [])) t_ → Steps p.tables e below (s₁.setTop (entryFrame m #[(.int o1), (.int o2), (.int o3), (.long u1), (.long u2), (.long u3)] maxLocals)) t_ := fun t_ k_ => pre81 t_ (by
      refine XS.lconst X81.here hx rfl (hb hby at_194) ?_
      show Steps p.tables e below (T81.setTop (mkF m 195 #[.val (.int o1), .val (.int o2), .val (.int o3), .val (.long u1), .second, .val (.long u2), .second, .val (.long u3), .second, .val (.long k1), .second, .val (.long k2), .second, .val (.long k3), .second, .val (.int se), .val (.int pb9), .val (.int pc15), .val (.int ex21), .val (.ref ec), .val (.int (Int32.ofNat 0)), .val (.int (Int32.ofNat 1)), .unset, .unset] [(.long (0 : Int64))])) _
      refine XS.lstore X81.here hx rfl (hb hby at_195) rfl (l' := #[.val (.int o1), .val (.int o2), .val (.int o3), .val (.long u1), .second, .val (.long u2), .second, .val (.long u3), .second, .val (.long k1), .second, .val (.long k2), .second, .val (.long k3), .second, .val (.int se), .val (.int pb9), .val (.int pc15), .val (.int ex21), .val (.ref ec), .val (.int (Int32.ofNat 0)), .val (.int (Int32.ofNat 1)), .val (.long (0 : Int64)), .second]) rfl ?_
      show Steps p.tables e below (T81.setTop (mkF m 197 #[.val (.int o1), .val (.int o2), .val (.int o3), .val (.long u1), .second, .val (.long u2), .second, .val (.long u3), .second, .val (.long k1), .second, .val (.long k2), .second, .val (.long k3), .second, .val (.int se), .val (.int pb9), .val (.int pc15), .val (.int ex21), .val (.ref ec), .val (.int (Int32.ofNat 0)), .val (.int (Int32.ofNat 1)), .val (.long (0 : Int64)), .second] [])) _
      exact k_)
  obtain ⟨T96, h96, L96, ev96, X96, e96, N96, Z96, f103, f104, f105, f106, f107, hv96, pre96⟩ : ∃ (T96 : State) (h96 : Heap) (L96 : List Loc) (ev96 : Int64), Stand p l e room_1 s m #[(.int o1), (.int o2), (.int o3), (.long u1), (.long u2), (.long u3)] below meth c T96 L96 12 160 ∧ T96.heap = h96 ∧ Fr n0 L96 ∧ n0 ≤ h96.size ∧ Exa Z h96 ec "com/example/headwater/headwater/headdriven/EventCounts" ∧ Fld Z h96 ec "com/example/headwater/headwater/headdriven/EventCounts" "m_aNodeCounts" "[J" (.ref nc) ∧ Fld Z h96 ec "com/example/headwater/headwater/headdriven/EventCounts" "m_aPairs" "Lcom/example/headwater/headwater/headdriven/LongMap;" (.ref pm) ∧ own_LM Z h96 pm psl pus M81 nn81 ∧ OArr Z h96 nc .long 64 (fun i => .long (cx81 i)) ∧ (own_EX (own_T1 (own_T1 (own_T1 (fun _ => (0 : Int)) o1 k1.toInt) pb9 k2.toInt) pc15 k3.toInt) ex21 ev96.toInt (o1 :: ([] : List Int32))) ∧ ∀ t_, Steps p.tables e below (T96.setTop (mkF m 225 #[.val (.int o1), .val (.int o2), .val (.int o3), .val (.long u1), .second, .val (.long u2), .second, .val (.long u3), .second, .val (.long k1), .second, .val (.long k2), .second, .val (.long k3), .second, .val (.int se), .val (.int pb9), .val (.int pc15), .val (.int ex21), .val (.ref ec), .val (.int (Int32.ofNat 0)), .val (.int (Int32.ofNat 1)), .val (.long ev96), .second] [])) t_ → Steps p.tables e below (s₁.setTop (entryFrame m #[(.int o1), (.int o2), (.int o3), (.long u1), (.long u2), (.long u3)] maxLocals)) t_ := by
    have pre97 : ∀ t_, Steps p.tables e below (T81.setTop (mkF m 200 #[.val (.int o1), .val (.int o2), .val (.int o3), .val (.long u1), .second, .val (.long u2), .second, .val (.long u3), .second, .val (.long k1), .second, .val (.long k2), .second, .val (.long k3), .second, .val (.int se), .val (.int pb9), .val (.int pc15), .val (.int ex21), .val (.ref ec), .val (.int (Int32.ofNat 0)), .val (.int (Int32.ofNat 1)), .val (.long (0 : Int64)), .second] [(.int ex21), (.int o1)])) t_ → Steps p.tables e below (s₁.setTop (entryFrame m #[(.int o1), (.int o2), (.int o3), (.long u1), (.long u2), (.long u3)] maxLocals)) t_ := fun t_ k_ => pre95 t_ (by
        refine XS.iloadN X81.here hx rfl (hb hby at_197) rfl ?_
        show Steps p.tables e below (T81.setTop (mkF m 198 #[.val (.int o1), .val (.int o2), .val (.int o3), .val (.long u1), .second, .val (.long u2), .second, .val (.long u3), .second, .val (.long k1), .second, .val (.long k2), .second, .val (.long k3), .second, .val (.int se), .val (.int pb9), .val (.int pc15), .val (.int ex21), .val (.ref ec), .val (.int (Int32.ofNat 0)), .val (.int (Int32.ofNat 1)), .val (.long (0 : Int64)), .second] [(.int o1)])) _
        refine XS.iload X81.here hx rfl (hb hby at_198) rfl ?_
        show Steps p.tables e below (T81.setTop (mkF m 200 #[.val (.int o1), .val (.int o2), .val (.int o3), .val (.long u1), .second, .val (.long u2), .second, .val (.long u3), .second, .val (.long k1), .second, .val (.long k2), .second, .val (.long k3), .second, .val (.int se), .val (.int pb9), .val (.int pc15), .val (.int ex21), .val (.ref ec), .val (.int (Int32.ofNat 0)), .val (.int (Int32.ofNat 1)), .val (.long (0 : Int64)), .second] [(.int ex21), (.int o1)])) _
        exact k_)
    by_cases c200_98 : o1 = ex21
    · have pre99 : ∀ t_, Steps p.tables e below (T81.setTop (mkF m 225 #[.val (.int o1), .val (.int o2), .val (.int o3), .val (.long u1), .second, .val (.long u2), .second, .val (.long u3), .second, .val (.long k1), .second, .val (.long k2), .second, .val (.long k3), .second, .val (.int se), .val (.int pb9), .val (.int pc15), .val (.int ex21), .val (.ref ec), .val (.int (Int32.ofNat 0)), .val (.int (Int32.ofNat 1)), .val (.long (0 : Int64)), .second] [])) t_ → Steps p.tables e below (s₁.setTop (entryFrame m #[(.int o1), (.int o2), (.int o3), (.long u1), (.long u2), (.long u3)] maxLocals)) t_ := fun t_ k_ => pre97 t_ (by
          refine XS.icmpYes X81.here hx rfl (pc0 := 200) (pc' := 225) rfl (hb hby at_200) rfl (teq c200_98).1 (by decide) (by decide) ?_
          show Steps p.tables e below (T81.setTop (mkF m 225 #[.val (.int o1), .val (.int o2), .val (.int o3), .val (.long u1), .second, .val (.long u2), .second, .val (.long u3), .second, .val (.long k1), .second, .val (.long k2), .second, .val (.long k3), .second, .val (.int se), .val (.int pb9), .val (.int pc15), .val (.int ex21), .val (.ref ec), .val (.int (Int32.ofNat 0)), .val (.int (Int32.ofNat 1)), .val (.long (0 : Int64)), .second] [])) _
          exact k_)
      exact ⟨T81, h81, _, (0 : Int64), X81, e81, N81, Z81, f90, f91, f92, f93, Ax81, hX0.skip c200_98, pre99⟩
    · obtain ⟨_, _, ⟨T100, L100, k100, n100⟩, -, X100, ⟨Lc100, hQ100, l100, y100, z100⟩, st100⟩ := Jvm.LawKit.callS X81 hx (y := (⟨"com/example/headwater/headwater/headdriven/EventCountsMostExceptPinLaw", "tot", "(IIIIJJJ)J"⟩ : MethodName)) hown (mvT hZ (hw _ (List.mem_of_getElem? (i := 108) rfl))) (mvT hZ (hw _ (List.mem_of_getElem? (i := 109) rfl))) (mvT hZ (hw _ (List.mem_of_getElem? (i := 110) rfl))) (mvT hZ (hw _ (List.mem_of_getElem? (i := 111) rfl))) (by decide) (backOf (W := 2) (rmO l Z a0 hw [] o1 o1 pb9 pc15 k1 k2 k3  h81 n0 Z81) hZ (hw _ (List.mem_of_getElem? (i := 111) rfl)) (hw _ (List.mem_of_getElem? (i := 110) rfl)) (by decide) (by decide)) (g := (mkF m 217 #[.val (.int o1), .val (.int o2), .val (.int o3), .val (.long u1), .second, .val (.long u2), .second, .val (.long u3), .second, .val (.long k1), .second, .val (.long k2), .second, .val (.long k3), .second, .val (.int se), .val (.int pb9), .val (.int pc15), .val (.int ex21), .val (.ref ec), .val (.int (Int32.ofNat 0)), .val (.int (Int32.ofNat 1)), .val (.long (0 : Int64)), .second] [(.long k3), (.long k2), (.long k1), (.int pc15), (.int pb9), (.int o1), (.int o1), (.long (0 : Int64))])) rfl (by rw [hml]; rfl) (argsL := [(.int o1), (.int o1), (.int pb9), (.int pc15), (.long k1), (.long k2), (.long k3)]) (rest := [(.long (0 : Int64))]) (lenOf pd0_3 rfl) rfl (by show 2 * 0 + _ ≤ _; exact Nat.le_of_eq rfl) (hb hby at_217) (fun _ _ => ⟨rfl, e81, (by decide : 12 + 0 ≤ _), (by decide : 160 + 0 ≤ _)⟩)
      dsimp only [Pt.U, Pt.locs, Pt.cells, Pt.slots] at X100 l100 y100 z100 st100 hQ100
      subst l100 y100 z100
      obtain ⟨rfl, N100q, e100⟩ := hQ100
      have N100 := Fr.app N81 N100q
      obtain ⟨_, _, ⟨T101, L101, k101, n101⟩, -, X101, ⟨Lc101, hQ101, l101, y101, z101⟩, st101⟩ := Jvm.LawKit.callS X100 hx (y := (⟨"java/lang/Math", "max", "(JJ)J"⟩ : MethodName)) hown (mvT hZ (hw _ (List.mem_of_getElem? (i := 112) rfl))) (mvT hZ (hw _ (List.mem_of_getElem? (i := 106) rfl))) (mvT hZ (hw _ (List.mem_of_getElem? (i := 100) rfl))) (mvT hZ (hw _ (List.mem_of_getElem? (i := 107) rfl))) (by decide) (backOf (W := 0) (rmMX l Z a0 hw [] ((0 : Int64)) ((own_if (own_if (own_if (0 : Int64) o1 o1 k1) pb9 o1 k2) pc15 o1 k3))  h81 n0 Z81) hZ (hw _ (List.mem_of_getElem? (i := 107) rfl)) (hw _ (List.mem_of_getElem? (i := 100) rfl)) (by decide) (by decide)) (g := (mkF m 220 #[.val (.int o1), .val (.int o2), .val (.int o3), .val (.long u1), .second, .val (.long u2), .second, .val (.long u3), .second, .val (.long k1), .second, .val (.long k2), .second, .val (.long k3), .second, .val (.int se), .val (.int pb9), .val (.int pc15), .val (.int ex21), .val (.ref ec), .val (.int (Int32.ofNat 0)), .val (.int (Int32.ofNat 1)), .val (.long (0 : Int64)), .second] [(.long (own_if (own_if (own_if (0 : Int64) o1 o1 k1) pb9 o1 k2) pc15 o1 k3)), (.long (0 : Int64))])) rfl (by rw [hml]; rfl) (argsL := [(.long (0 : Int64)), (.long (own_if (own_if (own_if (0 : Int64) o1 o1 k1) pb9 o1 k2) pc15 o1 k3))]) (rest := []) (lenOf pd0_4 rfl) rfl (by show 2 * 0 + _ ≤ _; exact Nat.le_of_eq rfl) (hb hby at_220) (fun _ _ => ⟨rfl, e100, (by decide : 12 + 0 ≤ _), (by decide : 160 + 0 ≤ _)⟩)
      dsimp only [Pt.U, Pt.locs, Pt.cells, Pt.slots] at X101 l101 y101 z101 st101 hQ101
      subst l101 y101 z101
      obtain ⟨rfl, N101q, e101⟩ := hQ101
      have N101 := Fr.app N100 N101q
      have pre102 : ∀ t_, Steps p.tables e below (T101.setTop (mkF m 225 #[.val (.int o1), .val (.int o2), .val (.int o3), .val (.long u1), .second, .val (.long u2), .second, .val (.long u3), .second, .val (.long k1), .second, .val (.long k2), .second, .val (.long k3), .second, .val (.int se), .val (.int pb9), .val (.int pc15), .val (.int ex21), .val (.ref ec), .val (.int (Int32.ofNat 0)), .val (.int (Int32.ofNat 1)), .val (.long (own_max (0 : Int64) (own_if (own_if (own_if (0 : Int64) o1 o1 k1) pb9 o1 k2) pc15 o1 k3))), .second] [])) t_ → Steps p.tables e below (s₁.setTop (entryFrame m #[(.int o1), (.int o2), (.int o3), (.long u1), (.long u2), (.long u3)] maxLocals)) t_ := fun t_ k_ => pre97 t_ (by
          refine XS.icmpNo X81.here hx rfl (hb hby at_200) rfl (feq c200_98).1 ?_
          show Steps p.tables e below (T81.setTop (mkF m 203 #[.val (.int o1), .val (.int o2), .val (.int o3), .val (.long u1), .second, .val (.long u2), .second, .val (.long u3), .second, .val (.long k1), .second, .val (.long k2), .second, .val (.long k3), .second, .val (.int se), .val (.int pb9), .val (.int pc15), .val (.int ex21), .val (.ref ec), .val (.int (Int32.ofNat 0)), .val (.int (Int32.ofNat 1)), .val (.long (0 : Int64)), .second] [])) _
          refine XS.lload X81.here hx rfl (hb hby at_203) rfl ?_
          show Steps p.tables e below (T81.setTop (mkF m 205 #[.val (.int o1), .val (.int o2), .val (.int o3), .val (.long u1), .second, .val (.long u2), .second, .val (.long u3), .second, .val (.long k1), .second, .val (.long k2), .second, .val (.long k3), .second, .val (.int se), .val (.int pb9), .val (.int pc15), .val (.int ex21), .val (.ref ec), .val (.int (Int32.ofNat 0)), .val (.int (Int32.ofNat 1)), .val (.long (0 : Int64)), .second] [(.long (0 : Int64))])) _
          refine XS.iloadN X81.here hx rfl (hb hby at_205) rfl ?_
          show Steps p.tables e below (T81.setTop (mkF m 206 #[.val (.int o1), .val (.int o2), .val (.int o3), .val (.long u1), .second, .val (.long u2), .second, .val (.long u3), .second, .val (.long k1), .second, .val (.long k2), .second, .val (.long k3), .second, .val (.int se), .val (.int pb9), .val (.int pc15), .val (.int ex21), .val (.ref ec), .val (.int (Int32.ofNat 0)), .val (.int (Int32.ofNat 1)), .val (.long (0 : Int64)), .second] [(.int o1), (.long (0 : Int64))])) _
          refine XS.iloadN X81.here hx rfl (hb hby at_206) rfl ?_
          show Steps p.tables e below (T81.setTop (mkF m 207 #[.val (.int o1), .val (.int o2), .val (.int o3), .val (.long u1), .second, .val (.long u2), .second, .val (.long u3), .second, .val (.long k1), .second, .val (.long k2), .second, .val (.long k3), .second, .val (.int se), .val (.int pb9), .val (.int pc15), .val (.int ex21), .val (.ref ec), .val (.int (Int32.ofNat 0)), .val (.int (Int32.ofNat 1)), .val (.long (0 : Int64)), .second] [(.int o1), (.int o1), (.long (0 : Int64))])) _
          refine XS.iload X81.here hx rfl (hb hby at_207) rfl ?_
          show Steps p.tables e below (T81.setTop (mkF m 209 #[.val (.int o1), .val (.int o2), .val (.int o3), .val (.long u1), .second, .val (.long u2), .second, .val (.long u3), .second, .val (.long k1), .second, .val (.long k2), .second, .val (.long k3), .second, .val (.int se), .val (.int pb9), .val (.int pc15), .val (.int ex21), .val (.ref ec), .val (.int (Int32.ofNat 0)), .val (.int (Int32.ofNat 1)), .val (.long (0 : Int64)), .second] [(.int pb9), (.int o1), (.int o1), (.long (0 : Int64))])) _
          refine XS.iload X81.here hx rfl (hb hby at_209) rfl ?_
          show Steps p.tables e below (T81.setTop (mkF m 211 #[.val (.int o1), .val (.int o2), .val (.int o3), .val (.long u1), .second, .val (.long u2), .second, .val (.long u3), .second, .val (.long k1), .second, .val (.long k2), .second, .val (.long k3), .second, .val (.int se), .val (.int pb9), .val (.int pc15), .val (.int ex21), .val (.ref ec), .val (.int (Int32.ofNat 0)), .val (.int (Int32.ofNat 1)), .val (.long (0 : Int64)), .second] [(.int pc15), (.int pb9), (.int o1), (.int o1), (.long (0 : Int64))])) _
          refine XS.lload X81.here hx rfl (hb hby at_211) rfl ?_
          show Steps p.tables e below (T81.setTop (mkF m 213 #[.val (.int o1), .val (.int o2), .val (.int o3), .val (.long u1), .second, .val (.long u2), .second, .val (.long u3), .second, .val (.long k1), .second, .val (.long k2), .second, .val (.long k3), .second, .val (.int se), .val (.int pb9), .val (.int pc15), .val (.int ex21), .val (.ref ec), .val (.int (Int32.ofNat 0)), .val (.int (Int32.ofNat 1)), .val (.long (0 : Int64)), .second] [(.long k1), (.int pc15), (.int pb9), (.int o1), (.int o1), (.long (0 : Int64))])) _
          refine XS.lload X81.here hx rfl (hb hby at_213) rfl ?_
          show Steps p.tables e below (T81.setTop (mkF m 215 #[.val (.int o1), .val (.int o2), .val (.int o3), .val (.long u1), .second, .val (.long u2), .second, .val (.long u3), .second, .val (.long k1), .second, .val (.long k2), .second, .val (.long k3), .second, .val (.int se), .val (.int pb9), .val (.int pc15), .val (.int ex21), .val (.ref ec), .val (.int (Int32.ofNat 0)), .val (.int (Int32.ofNat 1)), .val (.long (0 : Int64)), .second] [(.long k2), (.long k1), (.int pc15), (.int pb9), (.int o1), (.int o1), (.long (0 : Int64))])) _
          refine XS.lload X81.here hx rfl (hb hby at_215) rfl ?_
          show Steps p.tables e below (T81.setTop (mkF m 217 #[.val (.int o1), .val (.int o2), .val (.int o3), .val (.long u1), .second, .val (.long u2), .second, .val (.long u3), .second, .val (.long k1), .second, .val (.long k2), .second, .val (.long k3), .second, .val (.int se), .val (.int pb9), .val (.int pc15), .val (.int ex21), .val (.ref ec), .val (.int (Int32.ofNat 0)), .val (.int (Int32.ofNat 1)), .val (.long (0 : Int64)), .second] [(.long k3), (.long k2), (.long k1), (.int pc15), (.int pb9), (.int o1), (.int o1), (.long (0 : Int64))])) _
          refine st100 _ ?_
          show Steps p.tables e below (T100.setTop (mkF m 220 #[.val (.int o1), .val (.int o2), .val (.int o3), .val (.long u1), .second, .val (.long u2), .second, .val (.long u3), .second, .val (.long k1), .second, .val (.long k2), .second, .val (.long k3), .second, .val (.int se), .val (.int pb9), .val (.int pc15), .val (.int ex21), .val (.ref ec), .val (.int (Int32.ofNat 0)), .val (.int (Int32.ofNat 1)), .val (.long (0 : Int64)), .second] [(.long (own_if (own_if (own_if (0 : Int64) o1 o1 k1) pb9 o1 k2) pc15 o1 k3)), (.long (0 : Int64))])) _
          refine st101 _ ?_
          show Steps p.tables e below (T101.setTop (mkF m 223 #[.val (.int o1), .val (.int o2), .val (.int o3), .val (.long u1), .second, .val (.long u2), .second, .val (.long u3), .second, .val (.long k1), .second, .val (.long k2), .second, .val (.long k3), .second, .val (.int se), .val (.int pb9), .val (.int pc15), .val (.int ex21), .val (.ref ec), .val (.int (Int32.ofNat 0)), .val (.int (Int32.ofNat 1)), .val (.long (0 : Int64)), .second] [(.long (own_max (0 : Int64) (own_if (own_if (own_if (0 : Int64) o1 o1 k1) pb9 o1 k2) pc15 o1 k3)))])) _
          refine XS.lstore X101.here hx rfl (hb hby at_223) rfl (l' := #[.val (.int o1), .val (.int o2), .val (.int o3), .val (.long u1), .second, .val (.long u2), .second, .val (.long u3), .second, .val (.long k1), .second, .val (.long k2), .second, .val (.long k3), .second, .val (.int se), .val (.int pb9), .val (.int pc15), .val (.int ex21), .val (.ref ec), .val (.int (Int32.ofNat 0)), .val (.int (Int32.ofNat 1)), .val (.long (own_max (0 : Int64) (own_if (own_if (own_if (0 : Int64) o1 o1 k1) pb9 o1 k2) pc15 o1 k3))), .second]) rfl ?_
          show Steps p.tables e below (T101.setTop (mkF m 225 #[.val (.int o1), .val (.int o2), .val (.int o3), .val (.long u1), .second, .val (.long u2), .second, .val (.long u3), .second, .val (.long k1), .second, .val (.long k2), .second, .val (.long k3), .second, .val (.int se), .val (.int pb9), .val (.int pc15), .val (.int ex21), .val (.ref ec), .val (.int (Int32.ofNat 0)), .val (.int (Int32.ofNat 1)), .val (.long (own_max (0 : Int64) (own_if (own_if (own_if (0 : Int64) o1 o1 k1) pb9 o1 k2) pc15 o1 k3))), .second] [])) _
          exact k_)
      exact ⟨T101, h81, _, (own_max (0 : Int64) (own_if (own_if (own_if (0 : Int64) o1 o1 k1) pb9 o1 k2) pc15 o1 k3)), X101, e101, N101, Z81, f90, f91, f92, f93, Ax81, hX0.take c200_98 (by rw [own_max_int, own_tot r1 r2 r3]), pre102⟩
  obtain ⟨T108, h108, L108, ev108, X108, e108, N108, Z108, f115, f116, f117, f118, f119, hv108, pre108⟩ : ∃ (T108 : State) (h108 : Heap) (L108 : List Loc) (ev108 : Int64), Stand p l e room_1 s m #[(.int o1), (.int o2), (.int o3), (.long u1), (.long u2), (.long u3)] below meth c T108 L108 12 160 ∧ T108.heap = h108 ∧ Fr n0 L108 ∧ n0 ≤ h108.size ∧ Exa Z h108 ec "com/example/headwater/headwater/headdriven/EventCounts" ∧ Fld Z h108 ec "com/example/headwater/headwater/headdriven/EventCounts" "m_aNodeCounts" "[J" (.ref nc) ∧ Fld Z h108 ec "com/example/headwater/headwater/headdriven/EventCounts" "m_aPairs" "Lcom/example/headwater/headwater/headdriven/LongMap;" (.ref pm) ∧ own_LM Z h108 pm psl pus M81 nn81 ∧ OArr Z h108 nc .long 64 (fun i => .long (cx81 i)) ∧ (own_EX (own_T1 (own_T1 (own_T1 (fun _ => (0 : Int)) o1 k1.toInt) pb9 k2.toInt) pc15 k3.toInt) ex21 ev108.toInt (pb9 :: (o1 :: ([] : List Int32)))) ∧ ∀ t_, Steps p.tables e below (T108.setTop (mkF m 255 #[.val (.int o1), .val (.int o2), .val (.int o3), .val (.long u1), .second, .val (.long u2), .second, .val (.long u3), .second, .val (.long k1), .second, .val (.long k2), .second, .val (.long k3), .second, .val (.int se), .val (.int pb9), .val (.int pc15), .val (.int ex21), .val (.ref ec), .val (.int (Int32.ofNat 0)), .val (.int (Int32.ofNat 1)), .val (.long ev108), .second] [])) t_ → Steps p.tables e below (s₁.setTop (entryFrame m #[(.int o1), (.int o2), (.int o3), (.long u1), (.long u2), (.long u3)] maxLocals)) t_ := by
    have pre109 : ∀ t_, Steps p.tables e below (T96.setTop (mkF m 229 #[.val (.int o1), .val (.int o2), .val (.int o3), .val (.long u1), .second, .val (.long u2), .second, .val (.long u3), .second, .val (.long k1), .second, .val (.long k2), .second, .val (.long k3), .second, .val (.int se), .val (.int pb9), .val (.int pc15), .val (.int ex21), .val (.ref ec), .val (.int (Int32.ofNat 0)), .val (.int (Int32.ofNat 1)), .val (.long ev96), .second] [(.int ex21), (.int pb9)])) t_ → Steps p.tables e below (s₁.setTop (entryFrame m #[(.int o1), (.int o2), (.int o3), (.long u1), (.long u2), (.long u3)] maxLocals)) t_ := fun t_ k_ => pre96 t_ (by
        refine XS.iload X96.here hx rfl (hb hby at_225) rfl ?_
        show Steps p.tables e below (T96.setTop (mkF m 227 #[.val (.int o1), .val (.int o2), .val (.int o3), .val (.long u1), .second, .val (.long u2), .second, .val (.long u3), .second, .val (.long k1), .second, .val (.long k2), .second, .val (.long k3), .second, .val (.int se), .val (.int pb9), .val (.int pc15), .val (.int ex21), .val (.ref ec), .val (.int (Int32.ofNat 0)), .val (.int (Int32.ofNat 1)), .val (.long ev96), .second] [(.int pb9)])) _
        refine XS.iload X96.here hx rfl (hb hby at_227) rfl ?_
        show Steps p.tables e below (T96.setTop (mkF m 229 #[.val (.int o1), .val (.int o2), .val (.int o3), .val (.long u1), .second, .val (.long u2), .second, .val (.long u3), .second, .val (.long k1), .second, .val (.long k2), .second, .val (.long k3), .second, .val (.int se), .val (.int pb9), .val (.int pc15), .val (.int ex21), .val (.ref ec), .val (.int (Int32.ofNat 0)), .val (.int (Int32.ofNat 1)), .val (.long ev96), .second] [(.int ex21), (.int pb9)])) _
        exact k_)
    by_cases c229_110 : pb9 = ex21
    · have pre111 : ∀ t_, Steps p.tables e below (T96.setTop (mkF m 255 #[.val (.int o1), .val (.int o2), .val (.int o3), .val (.long u1), .second, .val (.long u2), .second, .val (.long u3), .second, .val (.long k1), .second, .val (.long k2), .second, .val (.long k3), .second, .val (.int se), .val (.int pb9), .val (.int pc15), .val (.int ex21), .val (.ref ec), .val (.int (Int32.ofNat 0)), .val (.int (Int32.ofNat 1)), .val (.long ev96), .second] [])) t_ → Steps p.tables e below (s₁.setTop (entryFrame m #[(.int o1), (.int o2), (.int o3), (.long u1), (.long u2), (.long u3)] maxLocals)) t_ := fun t_ k_ => pre109 t_ (by
          refine XS.icmpYes X96.here hx rfl (pc0 := 229) (pc' := 255) rfl (hb hby at_229) rfl (teq c229_110).1 (by decide) (by decide) ?_
          show Steps p.tables e below (T96.setTop (mkF m 255 #[.val (.int o1), .val (.int o2), .val (.int o3), .val (.long u1), .second, .val (.long u2), .second, .val (.long u3), .second, .val (.long k1), .second, .val (.long k2), .second, .val (.long k3), .second, .val (.int se), .val (.int pb9), .val (.int pc15), .val (.int ex21), .val (.ref ec), .val (.int (Int32.ofNat 0)), .val (.int (Int32.ofNat 1)), .val (.long ev96), .second] [])) _
          exact k_)
      exact ⟨T96, h96, _, ev96, X96, e96, N96, Z96, f103, f104, f105, f106, f107, hv96.skip c229_110, pre111⟩
    · obtain ⟨_, _, ⟨T112, L112, k112, n112⟩, -, X112, ⟨Lc112, hQ112, l112, y112, z112⟩, st112⟩ := Jvm.LawKit.callS X96 hx (y := (⟨"com/example/headwater/headwater/headdriven/EventCountsMostExceptPinLaw", "tot", "(IIIIJJJ)J"⟩ : MethodName)) hown (mvT hZ (hw _ (List.mem_of_getElem? (i := 108) rfl))) (mvT hZ (hw _ (List.mem_of_getElem? (i := 109) rfl))) (mvT hZ (hw _ (List.mem_of_getElem? (i := 110) rfl))) (mvT hZ (hw _ (List.mem_of_getElem? (i := 111) rfl))) (by decide) (backOf (W := 2) (rmO l Z a0 hw [] pb9 o1 pb9 pc15 k1 k2 k3  h96 n0 Z96) hZ (hw _ (List.mem_of_getElem? (i := 111) rfl)) (hw _ (List.mem_of_getElem? (i := 110) rfl)) (by decide) (by decide)) (g := (mkF m 247 #[.val (.int o1), .val (.int o2), .val (.int o3), .val (.long u1), .second, .val (.long u2), .second, .val (.long u3), .second, .val (.long k1), .second, .val (.long k2), .second, .val (.long k3), .second, .val (.int se), .val (.int pb9), .val (.int pc15), .val (.int ex21), .val (.ref ec), .val (.int (Int32.ofNat 0)), .val (.int (Int32.ofNat 1)), .val (.long ev96), .second] [(.long k3), (.long k2), (.long k1), (.int pc15), (.int pb9), (.int o1), (.int pb9), (.long ev96)])) rfl (by rw [hml]; rfl) (argsL := [(.int pb9), (.int o1), (.int pb9), (.int pc15), (.long k1), (.long k2), (.long k3)]) (rest := [(.long ev96)]) (lenOf pd0_3 rfl) rfl (by show 2 * 0 + _ ≤ _; exact Nat.le_of_eq rfl) (hb hby at_247) (fun _ _ => ⟨rfl, e96, (by decide : 12 + 0 ≤ _), (by decide : 160 + 0 ≤ _)⟩)
      dsimp only [Pt.U, Pt.locs, Pt.cells, Pt.slots] at X112 l112 y112 z112 st112 hQ112
      subst l112 y112 z112
      obtain ⟨rfl, N112q, e112⟩ := hQ112
      have N112 := Fr.app N96 N112q
      obtain ⟨_, _, ⟨T113, L113, k113, n113⟩, -, X113, ⟨Lc113, hQ113, l113, y113, z113⟩, st113⟩ := Jvm.LawKit.callS X112 hx (y := (⟨"java/lang/Math", "max", "(JJ)J"⟩ : MethodName)) hown (mvT hZ (hw _ (List.mem_of_getElem? (i := 112) rfl))) (mvT hZ (hw _ (List.mem_of_getElem? (i := 106) rfl))) (mvT hZ (hw _ (List.mem_of_getElem? (i := 100) rfl))) (mvT hZ (hw _ (List.mem_of_getElem? (i := 107) rfl))) (by decide) (backOf (W := 0) (rmMX l Z a0 hw [] ev96 ((own_if (own_if (own_if (0 : Int64) o1 pb9 k1) pb9 pb9 k2) pc15 pb9 k3))  h96 n0 Z96) hZ (hw _ (List.mem_of_getElem? (i := 107) rfl)) (hw _ (List.mem_of_getElem? (i := 100) rfl)) (by decide) (by decide)) (g := (mkF m 250 #[.val (.int o1), .val (.int o2), .val (.int o3), .val (.long u1), .second, .val (.long u2), .second, .val (.long u3), .second, .val (.long k1), .second, .val (.long k2), .second, .val (.long k3), .second, .val (.int se), .val (.int pb9), .val (.int pc15), .val (.int ex21), .val (.ref ec), .val (.int (Int32.ofNat 0)), .val (.int (Int32.ofNat 1)), .val (.long ev96), .second] [(.long (own_if (own_if (own_if (0 : Int64) o1 pb9 k1) pb9 pb9 k2) pc15 pb9 k3)), (.long ev96)])) rfl (by rw [hml]; rfl) (argsL := [(.long ev96), (.long (own_if (own_if (own_if (0 : Int64) o1 pb9 k1) pb9 pb9 k2) pc15 pb9 k3))]) (rest := []) (lenOf pd0_4 rfl) rfl (by show 2 * 0 + _ ≤ _; exact Nat.le_of_eq rfl) (hb hby at_250) (fun _ _ => ⟨rfl, e112, (by decide : 12 + 0 ≤ _), (by decide : 160 + 0 ≤ _)⟩)
      dsimp only [Pt.U, Pt.locs, Pt.cells, Pt.slots] at X113 l113 y113 z113 st113 hQ113
      subst l113 y113 z113
      obtain ⟨rfl, N113q, e113⟩ := hQ113
      have N113 := Fr.app N112 N113q
      have pre114 : ∀ t_, Steps p.tables e below (T113.setTop (mkF m 255 #[.val (.int o1), .val (.int o2), .val (.int o3), .val (.long u1), .second, .val (.long u2), .second, .val (.long u3), .second, .val (.long k1), .second, .val (.long k2), .second, .val (.long k3), .second, .val (.int se), .val (.int pb9), .val (.int pc15), .val (.int ex21), .val (.ref ec), .val (.int (Int32.ofNat 0)), .val (.int (Int32.ofNat 1)), .val (.long (own_max ev96 (own_if (own_if (own_if (0 : Int64) o1 pb9 k1) pb9 pb9 k2) pc15 pb9 k3))), .second] [])) t_ → Steps p.tables e below (s₁.setTop (entryFrame m #[(.int o1), (.int o2), (.int o3), (.long u1), (.long u2), (.long u3)] maxLocals)) t_ := fun t_ k_ => pre109 t_ (by
          refine XS.icmpNo X96.here hx rfl (hb hby at_229) rfl (feq c229_110).1 ?_
          show Steps p.tables e below (T96.setTop (mkF m 232 #[.val (.int o1), .val (.int o2), .val (.int o3), .val (.long u1), .second, .val (.long u2), .second, .val (.long u3), .second, .val (.long k1), .second, .val (.long k2), .second, .val (.long k3), .second, .val (.int se), .val (.int pb9), .val (.int pc15), .val (.int ex21), .val (.ref ec), .val (.int (Int32.ofNat 0)), .val (.int (Int32.ofNat 1)), .val (.long ev96), .second] [])) _
          refine XS.lload X96.here hx rfl (hb hby at_232) rfl ?_
          show Steps p.tables e below (T96.setTop (mkF m 234 #[.val (.int o1), .val (.int o2), .val (.int o3), .val (.long u1), .second, .val (.long u2), .second, .val (.long u3), .second, .val (.long k1), .second, .val (.long k2), .second, .val (.long k3), .second, .val (.int se), .val (.int pb9), .val (.int pc15), .val (.int ex21), .val (.ref ec), .val (.int (Int32.ofNat 0)), .val (.int (Int32.ofNat 1)), .val (.long ev96), .second] [(.long ev96)])) _
          refine XS.iload X96.here hx rfl (hb hby at_234) rfl ?_
          show Steps p.tables e below (T96.setTop (mkF m 236 #[.val (.int o1), .val (.int o2), .val (.int o3), .val (.long u1), .second, .val (.long u2), .second, .val (.long u3), .second, .val (.long k1), .second, .val (.long k2), .second, .val (.long k3), .second, .val (.int se), .val (.int pb9), .val (.int pc15), .val (.int ex21), .val (.ref ec), .val (.int (Int32.ofNat 0)), .val (.int (Int32.ofNat 1)), .val (.long ev96), .second] [(.int pb9), (.long ev96)])) _
          refine XS.iloadN X96.here hx rfl (hb hby at_236) rfl ?_
          show Steps p.tables e below (T96.setTop (mkF m 237 #[.val (.int o1), .val (.int o2), .val (.int o3), .val (.long u1), .second, .val (.long u2), .second, .val (.long u3), .second, .val (.long k1), .second, .val (.long k2), .second, .val (.long k3), .second, .val (.int se), .val (.int pb9), .val (.int pc15), .val (.int ex21), .val (.ref ec), .val (.int (Int32.ofNat 0)), .val (.int (Int32.ofNat 1)), .val (.long ev96), .second] [(.int o1), (.int pb9), (.long ev96)])) _
          refine XS.iload X96.here hx rfl (hb hby at_237) rfl ?_
          show Steps p.tables e below (T96.setTop (mkF m 239 #[.val (.int o1), .val (.int o2), .val (.int o3), .val (.long u1), .second, .val (.long u2), .second, .val (.long u3), .second, .val (.long k1), .second, .val (.long k2), .second, .val (.long k3), .second, .val (.int se), .val (.int pb9), .val (.int pc15), .val (.int ex21), .val (.ref ec), .val (.int (Int32.ofNat 0)), .val (.int (Int32.ofNat 1)), .val (.long ev96), .second] [(.int pb9), (.int o1), (.int pb9), (.long ev96)])) _
          refine XS.iload X96.here hx rfl (hb hby at_239) rfl ?_
          show Steps p.tables e below (T96.setTop (mkF m 241 #[.val (.int o1), .val (.int o2), .val (.int o3), .val (.long u1), .second, .val (.long u2), .second, .val (.long u3), .second, .val (.long k1), .second, .val (.long k2), .second, .val (.long k3), .second, .val (.int se), .val (.int pb9), .val (.int pc15), .val (.int ex21), .val (.ref ec), .val (.int (Int32.ofNat 0)), .val (.int (Int32.ofNat 1)), .val (.long ev96), .second] [(.int pc15), (.int pb9), (.int o1), (.int pb9), (.long ev96)])) _
          refine XS.lload X96.here hx rfl (hb hby at_241) rfl ?_
          show Steps p.tables e below (T96.setTop (mkF m 243 #[.val (.int o1), .val (.int o2), .val (.int o3), .val (.long u1), .second, .val (.long u2), .second, .val (.long u3), .second, .val (.long k1), .second, .val (.long k2), .second, .val (.long k3), .second, .val (.int se), .val (.int pb9), .val (.int pc15), .val (.int ex21), .val (.ref ec), .val (.int (Int32.ofNat 0)), .val (.int (Int32.ofNat 1)), .val (.long ev96), .second] [(.long k1), (.int pc15), (.int pb9), (.int o1), (.int pb9), (.long ev96)])) _
          refine XS.lload X96.here hx rfl (hb hby at_243) rfl ?_
          show Steps p.tables e below (T96.setTop (mkF m 245 #[.val (.int o1), .val (.int o2), .val (.int o3), .val (.long u1), .second, .val (.long u2), .second, .val (.long u3), .second, .val (.long k1), .second, .val (.long k2), .second, .val (.long k3), .second, .val (.int se), .val (.int pb9), .val (.int pc15), .val (.int ex21), .val (.ref ec), .val (.int (Int32.ofNat 0)), .val (.int (Int32.ofNat 1)), .val (.long ev96), .second] [(.long k2), (.long k1), (.int pc15), (.int pb9), (.int o1), (.int pb9), (.long ev96)])) _
          refine XS.lload X96.here hx rfl (hb hby at_245) rfl ?_
          show Steps p.tables e below (T96.setTop (mkF m 247 #[.val (.int o1), .val (.int o2), .val (.int o3), .val (.long u1), .second, .val (.long u2), .second, .val (.long u3), .second, .val (.long k1), .second, .val (.long k2), .second, .val (.long k3), .second, .val (.int se), .val (.int pb9), .val (.int pc15), .val (.int ex21), .val (.ref ec), .val (.int (Int32.ofNat 0)), .val (.int (Int32.ofNat 1)), .val (.long ev96), .second] [(.long k3), (.long k2), (.long k1), (.int pc15), (.int pb9), (.int o1), (.int pb9), (.long ev96)])) _
          refine st112 _ ?_
          show Steps p.tables e below (T112.setTop (mkF m 250 #[.val (.int o1), .val (.int o2), .val (.int o3), .val (.long u1), .second, .val (.long u2), .second, .val (.long u3), .second, .val (.long k1), .second, .val (.long k2), .second, .val (.long k3), .second, .val (.int se), .val (.int pb9), .val (.int pc15), .val (.int ex21), .val (.ref ec), .val (.int (Int32.ofNat 0)), .val (.int (Int32.ofNat 1)), .val (.long ev96), .second] [(.long (own_if (own_if (own_if (0 : Int64) o1 pb9 k1) pb9 pb9 k2) pc15 pb9 k3)), (.long ev96)])) _
          refine st113 _ ?_
          show Steps p.tables e below (T113.setTop (mkF m 253 #[.val (.int o1), .val (.int o2), .val (.int o3), .val (.long u1), .second, .val (.long u2), .second, .val (.long u3), .second, .val (.long k1), .second, .val (.long k2), .second, .val (.long k3), .second, .val (.int se), .val (.int pb9), .val (.int pc15), .val (.int ex21), .val (.ref ec), .val (.int (Int32.ofNat 0)), .val (.int (Int32.ofNat 1)), .val (.long ev96), .second] [(.long (own_max ev96 (own_if (own_if (own_if (0 : Int64) o1 pb9 k1) pb9 pb9 k2) pc15 pb9 k3)))])) _
          refine XS.lstore X113.here hx rfl (hb hby at_253) rfl (l' := #[.val (.int o1), .val (.int o2), .val (.int o3), .val (.long u1), .second, .val (.long u2), .second, .val (.long u3), .second, .val (.long k1), .second, .val (.long k2), .second, .val (.long k3), .second, .val (.int se), .val (.int pb9), .val (.int pc15), .val (.int ex21), .val (.ref ec), .val (.int (Int32.ofNat 0)), .val (.int (Int32.ofNat 1)), .val (.long (own_max ev96 (own_if (own_if (own_if (0 : Int64) o1 pb9 k1) pb9 pb9 k2) pc15 pb9 k3))), .second]) rfl ?_
          show Steps p.tables e below (T113.setTop (mkF m 255 #[.val (.int o1), .val (.int o2), .val (.int o3), .val (.long u1), .second, .val (.long u2), .second, .val (.long u3), .second, .val (.long k1), .second, .val (.long k2), .second, .val (.long k3), .second, .val (.int se), .val (.int pb9), .val (.int pc15), .val (.int ex21), .val (.ref ec), .val (.int (Int32.ofNat 0)), .val (.int (Int32.ofNat 1)), .val (.long (own_max ev96 (own_if (own_if (own_if (0 : Int64) o1 pb9 k1) pb9 pb9 k2) pc15 pb9 k3))), .second] [])) _
          exact k_)
      exact ⟨T113, h96, _, (own_max ev96 (own_if (own_if (own_if (0 : Int64) o1 pb9 k1) pb9 pb9 k2) pc15 pb9 k3)), X113, e113, N113, Z96, f103, f104, f105, f106, f107, hv96.take c229_110 (by rw [own_max_int, own_tot r1 r2 r3]), pre114⟩
  obtain ⟨T120, h120, L120, ev120, X120, e120, N120, Z120, f127, f128, f129, f130, f131, hv120, pre120⟩ : ∃ (T120 : State) (h120 : Heap) (L120 : List Loc) (ev120 : Int64), Stand p l e room_1 s m #[(.int o1), (.int o2), (.int o3), (.long u1), (.long u2), (.long u3)] below meth c T120 L120 12 160 ∧ T120.heap = h120 ∧ Fr n0 L120 ∧ n0 ≤ h120.size ∧ Exa Z h120 ec "com/example/headwater/headwater/headdriven/EventCounts" ∧ Fld Z h120 ec "com/example/headwater/headwater/headdriven/EventCounts" "m_aNodeCounts" "[J" (.ref nc) ∧ Fld Z h120 ec "com/example/headwater/headwater/headdriven/EventCounts" "m_aPairs" "Lcom/example/headwater/headwater/headdriven/LongMap;" (.ref pm) ∧ own_LM Z h120 pm psl pus M81 nn81 ∧ OArr Z h120 nc .long 64 (fun i => .long (cx81 i)) ∧ (own_EX (own_T1 (own_T1 (own_T1 (fun _ => (0 : Int)) o1 k1.toInt) pb9 k2.toInt) pc15 k3.toInt) ex21 ev120.toInt (pc15 :: (pb9 :: (o1 :: ([] : List Int32))))) ∧ ∀ t_, Steps p.tables e below (T120.setTop (mkF m 285 #[.val (.int o1), .val (.int o2), .val (.int o3), .val (.long u1), .second, .val (.long u2), .second, .val (.long u3), .second, .val (.long k1), .second, .val (.long k2), .second, .val (.long k3), .second, .val (.int se), .val (.int pb9), .val (.int pc15), .val (.int ex21), .val (.ref ec), .val (.int (Int32.ofNat 0)), .val (.int (Int32.ofNat 1)), .val (.long ev120), .second] [])) t_ → Steps p.tables e below (s₁.setTop (entryFrame m #[(.int o1), (.int o2), (.int o3), (.long u1), (.long u2), (.long u3)] maxLocals)) t_ := by
    have pre121 : ∀ t_, Steps p.tables e below (T108.setTop (mkF m 259 #[.val (.int o1), .val (.int o2), .val (.int o3), .val (.long u1), .second, .val (.long u2), .second, .val (.long u3), .second, .val (.long k1), .second, .val (.long k2), .second, .val (.long k3), .second, .val (.int se), .val (.int pb9), .val (.int pc15), .val (.int ex21), .val (.ref ec), .val (.int (Int32.ofNat 0)), .val (.int (Int32.ofNat 1)), .val (.long ev108), .second] [(.int ex21), (.int pc15)])) t_ → Steps p.tables e below (s₁.setTop (entryFrame m #[(.int o1), (.int o2), (.int o3), (.long u1), (.long u2), (.long u3)] maxLocals)) t_ := fun t_ k_ => pre108 t_ (by
        refine XS.iload X108.here hx rfl (hb hby at_255) rfl ?_
        show Steps p.tables e below (T108.setTop (mkF m 257 #[.val (.int o1), .val (.int o2), .val (.int o3), .val (.long u1), .second, .val (.long u2), .second, .val (.long u3), .second, .val (.long k1), .second, .val (.long k2), .second, .val (.long k3), .second, .val (.int se), .val (.int pb9), .val (.int pc15), .val (.int ex21), .val (.ref ec), .val (.int (Int32.ofNat 0)), .val (.int (Int32.ofNat 1)), .val (.long ev108), .second] [(.int pc15)])) _
        refine XS.iload X108.here hx rfl (hb hby at_257) rfl ?_
        show Steps p.tables e below (T108.setTop (mkF m 259 #[.val (.int o1), .val (.int o2), .val (.int o3), .val (.long u1), .second, .val (.long u2), .second, .val (.long u3), .second, .val (.long k1), .second, .val (.long k2), .second, .val (.long k3), .second, .val (.int se), .val (.int pb9), .val (.int pc15), .val (.int ex21), .val (.ref ec), .val (.int (Int32.ofNat 0)), .val (.int (Int32.ofNat 1)), .val (.long ev108), .second] [(.int ex21), (.int pc15)])) _
        exact k_)
    by_cases c259_122 : pc15 = ex21
    · have pre123 : ∀ t_, Steps p.tables e below (T108.setTop (mkF m 285 #[.val (.int o1), .val (.int o2), .val (.int o3), .val (.long u1), .second, .val (.long u2), .second, .val (.long u3), .second, .val (.long k1), .second, .val (.long k2), .second, .val (.long k3), .second, .val (.int se), .val (.int pb9), .val (.int pc15), .val (.int ex21), .val (.ref ec), .val (.int (Int32.ofNat 0)), .val (.int (Int32.ofNat 1)), .val (.long ev108), .second] [])) t_ → Steps p.tables e below (s₁.setTop (entryFrame m #[(.int o1), (.int o2), (.int o3), (.long u1), (.long u2), (.long u3)] maxLocals)) t_ := fun t_ k_ => pre121 t_ (by
          refine XS.icmpYes X108.here hx rfl (pc0 := 259) (pc' := 285) rfl (hb hby at_259) rfl (teq c259_122).1 (by decide) (by decide) ?_
          show Steps p.tables e below (T108.setTop (mkF m 285 #[.val (.int o1), .val (.int o2), .val (.int o3), .val (.long u1), .second, .val (.long u2), .second, .val (.long u3), .second, .val (.long k1), .second, .val (.long k2), .second, .val (.long k3), .second, .val (.int se), .val (.int pb9), .val (.int pc15), .val (.int ex21), .val (.ref ec), .val (.int (Int32.ofNat 0)), .val (.int (Int32.ofNat 1)), .val (.long ev108), .second] [])) _
          exact k_)
      exact ⟨T108, h108, _, ev108, X108, e108, N108, Z108, f115, f116, f117, f118, f119, hv108.skip c259_122, pre123⟩
    · obtain ⟨_, _, ⟨T124, L124, k124, n124⟩, -, X124, ⟨Lc124, hQ124, l124, y124, z124⟩, st124⟩ := Jvm.LawKit.callS X108 hx (y := (⟨"com/example/headwater/headwater/headdriven/EventCountsMostExceptPinLaw", "tot", "(IIIIJJJ)J"⟩ : MethodName)) hown (mvT hZ (hw _ (List.mem_of_getElem? (i := 108) rfl))) (mvT hZ (hw _ (List.mem_of_getElem? (i := 109) rfl))) (mvT hZ (hw _ (List.mem_of_getElem? (i := 110) rfl))) (mvT hZ (hw _ (List.mem_of_getElem? (i := 111) rfl))) (by decide) (backOf (W := 2) (rmO l Z a0 hw [] pc15 o1 pb9 pc15 k1 k2 k3  h108 n0 Z108) hZ (hw _ (List.mem_of_getElem? (i := 111) rfl)) (hw _ (List.mem_of_getElem? (i := 110) rfl)) (by decide) (by decide)) (g := (mkF m 277 #[.val (.int o1), .val (.int o2), .val (.int o3), .val (.long u1), .second, .val (.long u2), .second, .val (.long u3), .second, .val (.long k1), .second, .val (.long k2), .second, .val (.long k3), .second, .val (.int se), .val (.int pb9), .val (.int pc15), .val (.int ex21), .val (.ref ec), .val (.int (Int32.ofNat 0)), .val (.int (Int32.ofNat 1)), .val (.long ev108), .second] [(.long k3), (.long k2), (.long k1), (.int pc15), (.int pb9), (.int o1), (.int pc15), (.long ev108)])) rfl (by rw [hml]; rfl) (argsL := [(.int pc15), (.int o1), (.int pb9), (.int pc15), (.long k1), (.long k2), (.long k3)]) (rest := [(.long ev108)]) (lenOf pd0_3 rfl) rfl (by show 2 * 0 + _ ≤ _; exact Nat.le_of_eq rfl) (hb hby at_277) (fun _ _ => ⟨rfl, e108, (by decide : 12 + 0 ≤ _), (by decide : 160 + 0 ≤ _)⟩)
      dsimp only [Pt.U, Pt.locs, Pt.cells, Pt.slots] at X124 l124 y124 z124 st124 hQ124
      subst l124 y124 z124
      obtain ⟨rfl, N124q, e124⟩ := hQ124
      have N124 := Fr.app N108 N124q
      obtain ⟨_, _, ⟨T125, L125, k125, n125⟩, -, X125, ⟨Lc125, hQ125, l125, y125, z125⟩, st125⟩ := Jvm.LawKit.callS X124 hx (y := (⟨"java/lang/Math", "max", "(JJ)J"⟩ : MethodName)) hown (mvT hZ (hw _ (List.mem_of_getElem? (i := 112) rfl))) (mvT hZ (hw _ (List.mem_of_getElem? (i := 106) rfl))) (mvT hZ (hw _ (List.mem_of_getElem? (i := 100) rfl))) (mvT hZ (hw _ (List.mem_of_getElem? (i := 107) rfl))) (by decide) (backOf (W := 0) (rmMX l Z a0 hw [] ev108 ((own_if (own_if (own_if (0 : Int64) o1 pc15 k1) pb9 pc15 k2) pc15 pc15 k3))  h108 n0 Z108) hZ (hw _ (List.mem_of_getElem? (i := 107) rfl)) (hw _ (List.mem_of_getElem? (i := 100) rfl)) (by decide) (by decide)) (g := (mkF m 280 #[.val (.int o1), .val (.int o2), .val (.int o3), .val (.long u1), .second, .val (.long u2), .second, .val (.long u3), .second, .val (.long k1), .second, .val (.long k2), .second, .val (.long k3), .second, .val (.int se), .val (.int pb9), .val (.int pc15), .val (.int ex21), .val (.ref ec), .val (.int (Int32.ofNat 0)), .val (.int (Int32.ofNat 1)), .val (.long ev108), .second] [(.long (own_if (own_if (own_if (0 : Int64) o1 pc15 k1) pb9 pc15 k2) pc15 pc15 k3)), (.long ev108)])) rfl (by rw [hml]; rfl) (argsL := [(.long ev108), (.long (own_if (own_if (own_if (0 : Int64) o1 pc15 k1) pb9 pc15 k2) pc15 pc15 k3))]) (rest := []) (lenOf pd0_4 rfl) rfl (by show 2 * 0 + _ ≤ _; exact Nat.le_of_eq rfl) (hb hby at_280) (fun _ _ => ⟨rfl, e124, (by decide : 12 + 0 ≤ _), (by decide : 160 + 0 ≤ _)⟩)
      dsimp only [Pt.U, Pt.locs, Pt.cells, Pt.slots] at X125 l125 y125 z125 st125 hQ125
      subst l125 y125 z125
      obtain ⟨rfl, N125q, e125⟩ := hQ125
      have N125 := Fr.app N124 N125q
      have pre126 : ∀ t_, Steps p.tables e below (T125.setTop (mkF m 285 #[.val (.int o1), .val (.int o2), .val (.int o3), .val (.long u1), .second, .val (.long u2), .second, .val (.long u3), .second, .val (.long k1), .second, .val (.long k2), .second, .val (.long k3), .second, .val (.int se), .val (.int pb9), .val (.int pc15), .val (.int ex21), .val (.ref ec), .val (.int (Int32.ofNat 0)), .val (.int (Int32.ofNat 1)), .val (.long (own_max ev108 (own_if (own_if (own_if (0 : Int64) o1 pc15 k1) pb9 pc15 k2) pc15 pc15 k3))), .second] [])) t_ → Steps p.tables e below (s₁.setTop (entryFrame m #[(.int o1), (.int o2), (.int o3), (.long u1), (.long u2), (.long u3)] maxLocals)) t_ := fun t_ k_ => pre121 t_ (by
          refine XS.icmpNo X108.here hx rfl (hb hby at_259) rfl (feq c259_122).1 ?_
          show Steps p.tables e below (T108.setTop (mkF m 262 #[.val (.int o1), .val (.int o2), .val (.int o3), .val (.long u1), .second, .val (.long u2), .second, .val (.long u3), .second, .val (.long k1), .second, .val (.long k2), .second, .val (.long k3), .second, .val (.int se), .val (.int pb9), .val (.int pc15), .val (.int ex21), .val (.ref ec), .val (.int (Int32.ofNat 0)), .val (.int (Int32.ofNat 1)), .val (.long ev108), .second] [])) _
          refine XS.lload X108.here hx rfl (hb hby at_262) rfl ?_
          show Steps p.tables e below (T108.setTop (mkF m 264 #[.val (.int o1), .val (.int o2), .val (.int o3), .val (.long u1), .second, .val (.long u2), .second, .val (.long u3), .second, .val (.long k1), .second, .val (.long k2), .second, .val (.long k3), .second, .val (.int se), .val (.int pb9), .val (.int pc15), .val (.int ex21), .val (.ref ec), .val (.int (Int32.ofNat 0)), .val (.int (Int32.ofNat 1)), .val (.long ev108), .second] [(.long ev108)])) _
          refine XS.iload X108.here hx rfl (hb hby at_264) rfl ?_
          show Steps p.tables e below (T108.setTop (mkF m 266 #[.val (.int o1), .val (.int o2), .val (.int o3), .val (.long u1), .second, .val (.long u2), .second, .val (.long u3), .second, .val (.long k1), .second, .val (.long k2), .second, .val (.long k3), .second, .val (.int se), .val (.int pb9), .val (.int pc15), .val (.int ex21), .val (.ref ec), .val (.int (Int32.ofNat 0)), .val (.int (Int32.ofNat 1)), .val (.long ev108), .second] [(.int pc15), (.long ev108)])) _
          refine XS.iloadN X108.here hx rfl (hb hby at_266) rfl ?_
          show Steps p.tables e below (T108.setTop (mkF m 267 #[.val (.int o1), .val (.int o2), .val (.int o3), .val (.long u1), .second, .val (.long u2), .second, .val (.long u3), .second, .val (.long k1), .second, .val (.long k2), .second, .val (.long k3), .second, .val (.int se), .val (.int pb9), .val (.int pc15), .val (.int ex21), .val (.ref ec), .val (.int (Int32.ofNat 0)), .val (.int (Int32.ofNat 1)), .val (.long ev108), .second] [(.int o1), (.int pc15), (.long ev108)])) _
          refine XS.iload X108.here hx rfl (hb hby at_267) rfl ?_
          show Steps p.tables e below (T108.setTop (mkF m 269 #[.val (.int o1), .val (.int o2), .val (.int o3), .val (.long u1), .second, .val (.long u2), .second, .val (.long u3), .second, .val (.long k1), .second, .val (.long k2), .second, .val (.long k3), .second, .val (.int se), .val (.int pb9), .val (.int pc15), .val (.int ex21), .val (.ref ec), .val (.int (Int32.ofNat 0)), .val (.int (Int32.ofNat 1)), .val (.long ev108), .second] [(.int pb9), (.int o1), (.int pc15), (.long ev108)])) _
          refine XS.iload X108.here hx rfl (hb hby at_269) rfl ?_
          show Steps p.tables e below (T108.setTop (mkF m 271 #[.val (.int o1), .val (.int o2), .val (.int o3), .val (.long u1), .second, .val (.long u2), .second, .val (.long u3), .second, .val (.long k1), .second, .val (.long k2), .second, .val (.long k3), .second, .val (.int se), .val (.int pb9), .val (.int pc15), .val (.int ex21), .val (.ref ec), .val (.int (Int32.ofNat 0)), .val (.int (Int32.ofNat 1)), .val (.long ev108), .second] [(.int pc15), (.int pb9), (.int o1), (.int pc15), (.long ev108)])) _
          refine XS.lload X108.here hx rfl (hb hby at_271) rfl ?_
          show Steps p.tables e below (T108.setTop (mkF m 273 #[.val (.int o1), .val (.int o2), .val (.int o3), .val (.long u1), .second, .val (.long u2), .second, .val (.long u3), .second, .val (.long k1), .second, .val (.long k2), .second, .val (.long k3), .second, .val (.int se), .val (.int pb9), .val (.int pc15), .val (.int ex21), .val (.ref ec), .val (.int (Int32.ofNat 0)), .val (.int (Int32.ofNat 1)), .val (.long ev108), .second] [(.long k1), (.int pc15), (.int pb9), (.int o1), (.int pc15), (.long ev108)])) _
          refine XS.lload X108.here hx rfl (hb hby at_273) rfl ?_
          show Steps p.tables e below (T108.setTop (mkF m 275 #[.val (.int o1), .val (.int o2), .val (.int o3), .val (.long u1), .second, .val (.long u2), .second, .val (.long u3), .second, .val (.long k1), .second, .val (.long k2), .second, .val (.long k3), .second, .val (.int se), .val (.int pb9), .val (.int pc15), .val (.int ex21), .val (.ref ec), .val (.int (Int32.ofNat 0)), .val (.int (Int32.ofNat 1)), .val (.long ev108), .second] [(.long k2), (.long k1), (.int pc15), (.int pb9), (.int o1), (.int pc15), (.long ev108)])) _
          refine XS.lload X108.here hx rfl (hb hby at_275) rfl ?_
          show Steps p.tables e below (T108.setTop (mkF m 277 #[.val (.int o1), .val (.int o2), .val (.int o3), .val (.long u1), .second, .val (.long u2), .second, .val (.long u3), .second, .val (.long k1), .second, .val (.long k2), .second, .val (.long k3), .second, .val (.int se), .val (.int pb9), .val (.int pc15), .val (.int ex21), .val (.ref ec), .val (.int (Int32.ofNat 0)), .val (.int (Int32.ofNat 1)), .val (.long ev108), .second] [(.long k3), (.long k2), (.long k1), (.int pc15), (.int pb9), (.int o1), (.int pc15), (.long ev108)])) _
          refine st124 _ ?_
          show Steps p.tables e below (T124.setTop (mkF m 280 #[.val (.int o1), .val (.int o2), .val (.int o3), .val (.long u1), .second, .val (.long u2), .second, .val (.long u3), .second, .val (.long k1), .second, .val (.long k2), .second, .val (.long k3), .second, .val (.int se), .val (.int pb9), .val (.int pc15), .val (.int ex21), .val (.ref ec), .val (.int (Int32.ofNat 0)), .val (.int (Int32.ofNat 1)), .val (.long ev108), .second] [(.long (own_if (own_if (own_if (0 : Int64) o1 pc15 k1) pb9 pc15 k2) pc15 pc15 k3)), (.long ev108)])) _
          refine st125 _ ?_
          show Steps p.tables e below (T125.setTop (mkF m 283 #[.val (.int o1), .val (.int o2), .val (.int o3), .val (.long u1), .second, .val (.long u2), .second, .val (.long u3), .second, .val (.long k1), .second, .val (.long k2), .second, .val (.long k3), .second, .val (.int se), .val (.int pb9), .val (.int pc15), .val (.int ex21), .val (.ref ec), .val (.int (Int32.ofNat 0)), .val (.int (Int32.ofNat 1)), .val (.long ev108), .second] [(.long (own_max ev108 (own_if (own_if (own_if (0 : Int64) o1 pc15 k1) pb9 pc15 k2) pc15 pc15 k3)))])) _
          refine XS.lstore X125.here hx rfl (hb hby at_283) rfl (l' := #[.val (.int o1), .val (.int o2), .val (.int o3), .val (.long u1), .second, .val (.long u2), .second, .val (.long u3), .second, .val (.long k1), .second, .val (.long k2), .second, .val (.long k3), .second, .val (.int se), .val (.int pb9), .val (.int pc15), .val (.int ex21), .val (.ref ec), .val (.int (Int32.ofNat 0)), .val (.int (Int32.ofNat 1)), .val (.long (own_max ev108 (own_if (own_if (own_if (0 : Int64) o1 pc15 k1) pb9 pc15 k2) pc15 pc15 k3))), .second]) rfl ?_
          show Steps p.tables e below (T125.setTop (mkF m 285 #[.val (.int o1), .val (.int o2), .val (.int o3), .val (.long u1), .second, .val (.long u2), .second, .val (.long u3), .second, .val (.long k1), .second, .val (.long k2), .second, .val (.long k3), .second, .val (.int se), .val (.int pb9), .val (.int pc15), .val (.int ex21), .val (.ref ec), .val (.int (Int32.ofNat 0)), .val (.int (Int32.ofNat 1)), .val (.long (own_max ev108 (own_if (own_if (own_if (0 : Int64) o1 pc15 k1) pb9 pc15 k2) pc15 pc15 k3))), .second] [])) _
          exact k_)
      exact ⟨T125, h108, _, (own_max ev108 (own_if (own_if (own_if (0 : Int64) o1 pc15 k1) pb9 pc15 k2) pc15 pc15 k3)), X125, e125, N125, Z108, f115, f116, f117, f118, f119, hv108.take c259_122 (by rw [own_max_int, own_tot r1 r2 r3]), pre126⟩
  have hz : ∀ x, x ∉ (pc15 :: (pb9 :: (o1 :: ([] : List Int32)))) → (own_T1 (own_T1 (own_T1 (fun _ => (0 : Int)) o1 k1.toInt) pb9 k2.toInt) pc15 k3.toInt) x = 0 := fun x hx => by
    simp only [List.mem_cons, List.not_mem_nil, or_false, not_or] at hx
    simp only [own_T1, if_neg hx.1, if_neg hx.2.1, if_neg hx.2.2]
  have hfin : (if (cx81 (4 * 1 + 3)).toInt32 = ex21 then cx81 (4 * 1 + 2) else cx81 (4 * 1 + 1)) = ev120 := by
    have q := hST81.1.most hz hv120
    apply Int64.toInt_inj.mp
    rw [← q]
    show (if (cx81 7).toInt32 = ex21 then cx81 6 else cx81 5).toInt = _
    split <;> rfl
  obtain ⟨cq132, kq132, q132a, q132b, q132c⟩ := isOf hZ e120 f127
  obtain ⟨_, _, ⟨T132, L132, k132, n132⟩, -, X132, ⟨Lc132, hQ132, l132, y132, z132⟩, st132⟩ := X120.virtualBack hx (y := (⟨"com/example/headwater/headwater/headdriven/EventCounts", "mostExcept", "(II)J"⟩ : MethodName)) (z := (⟨"com/example/headwater/headwater/headdriven/EventCounts", "mostExcept", "(II)J"⟩ : MethodName)) hown (mvT hZ (hw _ (List.mem_of_getElem? (i := 113) rfl))) (mvT hZ (hw _ (List.mem_of_getElem? (i := 114) rfl))) (notFace_of_selects (args := #[]) (mvT hZ (hw _ (List.mem_of_getElem? (i := 116) rfl)))) (mvT hZ (hw _ (List.mem_of_getElem? (i := 116) rfl))) (mvT hZ (hw _ (List.mem_of_getElem? (i := 115) rfl))) (by decide) (backOf (W := 0) (rmME l Z a0 hw [] ec ((Int32.ofNat 1)) ex21 1 nc cx81 h120 n0 Z120 f128 f131 rfl (by decide)) hZ (hw _ (List.mem_of_getElem? (i := 117) rfl)) (hw _ (List.mem_of_getElem? (i := 4) rfl)) (by decide) (by decide)) q132a q132c (g := (mkF m 291 #[.val (.int o1), .val (.int o2), .val (.int o3), .val (.long u1), .second, .val (.long u2), .second, .val (.long u3), .second, .val (.long k1), .second, .val (.long k2), .second, .val (.long k3), .second, .val (.int se), .val (.int pb9), .val (.int pc15), .val (.int ex21), .val (.ref ec), .val (.int (Int32.ofNat 0)), .val (.int (Int32.ofNat 1)), .val (.long ev120), .second] [(.int ex21), (.int (Int32.ofNat 1)), (.ref ec)])) rfl (by rw [hml]; rfl) (Steps.refl _) (argsL := [(.int (Int32.ofNat 1)), (.int ex21)]) (rest := []) (lenOf pd0_5 rfl) rfl (by show 2 * 0 + _ ≤ _; exact Nat.le_of_eq rfl) (hb hby at_291) (fun _ _ => ⟨rfl, e120, (by decide : 12 + 0 ≤ _), (by decide : 160 + 0 ≤ _)⟩)
  dsimp only [Pt.U, Pt.locs, Pt.cells, Pt.slots] at X132 l132 y132 z132 st132 hQ132
  subst l132 y132 z132
  obtain ⟨rfl, N132q, e132⟩ := hQ132
  have N132 := Fr.app N120 N132q
  have pre133 : ∀ t_, Steps p.tables e below (T132.setTop (mkF m 305 #[.val (.int o1), .val (.int o2), .val (.int o3), .val (.long u1), .second, .val (.long u2), .second, .val (.long u3), .second, .val (.long k1), .second, .val (.long k2), .second, .val (.long k3), .second, .val (.int se), .val (.int pb9), .val (.int pc15), .val (.int ex21), .val (.ref ec), .val (.int (Int32.ofNat 0)), .val (.int (Int32.ofNat 1)), .val (.long ev120), .second] [(.int (1 : Int32))])) t_ → Steps p.tables e below (s₁.setTop (entryFrame m #[(.int o1), (.int o2), (.int o3), (.long u1), (.long u2), (.long u3)] maxLocals)) t_ := fun t_ k_ => pre120 t_ (by
      refine XS.aload X120.here hx rfl (hb hby at_285) rfl rfl ?_
      show Steps p.tables e below (T120.setTop (mkF m 287 #[.val (.int o1), .val (.int o2), .val (.int o3), .val (.long u1), .second, .val (.long u2), .second, .val (.long u3), .second, .val (.long k1), .second, .val (.long k2), .second, .val (.long k3), .second, .val (.int se), .val (.int pb9), .val (.int pc15), .val (.int ex21), .val (.ref ec), .val (.int (Int32.ofNat 0)), .val (.int (Int32.ofNat 1)), .val (.long ev120), .second] [(.ref ec)])) _
      refine XS.iload X120.here hx rfl (hb hby at_287) rfl ?_
      show Steps p.tables e below (T120.setTop (mkF m 289 #[.val (.int o1), .val (.int o2), .val (.int o3), .val (.long u1), .second, .val (.long u2), .second, .val (.long u3), .second, .val (.long k1), .second, .val (.long k2), .second, .val (.long k3), .second, .val (.int se), .val (.int pb9), .val (.int pc15), .val (.int ex21), .val (.ref ec), .val (.int (Int32.ofNat 0)), .val (.int (Int32.ofNat 1)), .val (.long ev120), .second] [(.int (Int32.ofNat 1)), (.ref ec)])) _
      refine XS.iload X120.here hx rfl (hb hby at_289) rfl ?_
      show Steps p.tables e below (T120.setTop (mkF m 291 #[.val (.int o1), .val (.int o2), .val (.int o3), .val (.long u1), .second, .val (.long u2), .second, .val (.long u3), .second, .val (.long k1), .second, .val (.long k2), .second, .val (.long k3), .second, .val (.int se), .val (.int pb9), .val (.int pc15), .val (.int ex21), .val (.ref ec), .val (.int (Int32.ofNat 0)), .val (.int (Int32.ofNat 1)), .val (.long ev120), .second] [(.int ex21), (.int (Int32.ofNat 1)), (.ref ec)])) _
      refine st132.trans ?_
      show Steps p.tables e below (T132.setTop (mkF m 294 #[.val (.int o1), .val (.int o2), .val (.int o3), .val (.long u1), .second, .val (.long u2), .second, .val (.long u3), .second, .val (.long k1), .second, .val (.long k2), .second, .val (.long k3), .second, .val (.int se), .val (.int pb9), .val (.int pc15), .val (.int ex21), .val (.ref ec), .val (.int (Int32.ofNat 0)), .val (.int (Int32.ofNat 1)), .val (.long ev120), .second] [(.long (if (cx81 (4 * 1 + 3)).toInt32 = ex21 then cx81 (4 * 1 + 2) else cx81 (4 * 1 + 1)))])) _
      refine XS.lload X132.here hx rfl (hb hby at_294) rfl ?_
      show Steps p.tables e below (T132.setTop (mkF m 296 #[.val (.int o1), .val (.int o2), .val (.int o3), .val (.long u1), .second, .val (.long u2), .second, .val (.long u3), .second, .val (.long k1), .second, .val (.long k2), .second, .val (.long k3), .second, .val (.int se), .val (.int pb9), .val (.int pc15), .val (.int ex21), .val (.ref ec), .val (.int (Int32.ofNat 0)), .val (.int (Int32.ofNat 1)), .val (.long ev120), .second] [(.long ev120), (.long (if (cx81 (4 * 1 + 3)).toInt32 = ex21 then cx81 (4 * 1 + 2) else cx81 (4 * 1 + 1)))])) _
      refine XS.lcmp X132.here hx rfl (hb hby at_296) rfl ?_
      show Steps p.tables e below (T132.setTop (mkF m 297 #[.val (.int o1), .val (.int o2), .val (.int o3), .val (.long u1), .second, .val (.long u2), .second, .val (.long u3), .second, .val (.long k1), .second, .val (.long k2), .second, .val (.long k3), .second, .val (.int se), .val (.int pb9), .val (.int pc15), .val (.int ex21), .val (.ref ec), .val (.int (Int32.ofNat 0)), .val (.int (Int32.ofNat 1)), .val (.long ev120), .second] [(.int (lcmpW (if (cx81 (4 * 1 + 3)).toInt32 = ex21 then cx81 (4 * 1 + 2) else cx81 (4 * 1 + 1)) ev120))])) _
      refine XS.ifNo X132.here hx rfl (hb hby at_297) rfl ((if0 _ _).trans (teq (own_lc hfin)).2) ?_
      show Steps p.tables e below (T132.setTop (mkF m 300 #[.val (.int o1), .val (.int o2), .val (.int o3), .val (.long u1), .second, .val (.long u2), .second, .val (.long u3), .second, .val (.long k1), .second, .val (.long k2), .second, .val (.long k3), .second, .val (.int se), .val (.int pb9), .val (.int pc15), .val (.int ex21), .val (.ref ec), .val (.int (Int32.ofNat 0)), .val (.int (Int32.ofNat 1)), .val (.long ev120), .second] [])) _
      refine XS.iconst X132.here hx rfl (hb hby at_300) ?_
      show Steps p.tables e below (T132.setTop (mkF m 301 #[.val (.int o1), .val (.int o2), .val (.int o3), .val (.long u1), .second, .val (.long u2), .second, .val (.long u3), .second, .val (.long k1), .second, .val (.long k2), .second, .val (.long k3), .second, .val (.int se), .val (.int pb9), .val (.int pc15), .val (.int ex21), .val (.ref ec), .val (.int (Int32.ofNat 0)), .val (.int (Int32.ofNat 1)), .val (.long ev120), .second] [(.int (1 : Int32))])) _
      refine XS.goto X132.here hx rfl (pc0 := 301) (pc' := 305) rfl (hb hby at_301) (by decide) (by decide) ?_
      show Steps p.tables e below (T132.setTop (mkF m 305 #[.val (.int o1), .val (.int o2), .val (.int o3), .val (.long u1), .second, .val (.long u2), .second, .val (.long u3), .second, .val (.long k1), .second, .val (.long k2), .second, .val (.long k3), .second, .val (.int se), .val (.int pb9), .val (.int pc15), .val (.int ex21), .val (.ref ec), .val (.int (Int32.ofNat 0)), .val (.int (Int32.ofNat 1)), .val (.long ev120), .second] [(.int (1 : Int32))])) _
      exact k_)
  obtain ⟨fs, hr, hrun, hended, hW, hsame⟩ := X132.leave (v := some (.int (1 : Int32))) (fun h => by rw [Bd.returns] at h; cases h)
  refine ⟨_, _, pre133 _ ?_, hrun, hended, _, _, rfl, ?_, ⟨_, rfl⟩, hW, hsame.mono (by decide) (by decide)⟩
  · exact retN X132 hx (t := .boolean) Bd.returns (by simp) (hb hby at_305) hr
  · show Q0 Z o1 o2 o3 u1 u2 u3 h0 n0 _ T132.heap _
    rw [e132]
    exact ⟨rfl, N132⟩
set_option maxRecDepth 65536 in
set_option maxHeartbeats 40000000 in
theorem comes_1 {Post : Tables → Env → Array Value → State → Outcome → State → Prop} (hpost : ∀ tb e args s v u, (limb_1_1.after args s (.returned v) u = true ∧ limb_1_2.after args s (.returned v) u = true ∧ True) → FrameEnd s (.returned v) u (Jvm.fieldLocs frame_1_writes args s ++ Jvm.arrayLocs frame_1_arrays args s ++ Jvm.staticLocs frame_1_statics s) 32 384 → Post tb e args s (.returned v) u) :
    ArmFor flags0 classFile x code maxLocals ret World_1 tables_1 room_1 Calls_1 rest_1 Pre_1 Post := by
  intro l hfl _ _ p e ha hc hk s m args below hf hA hF happ hP
  obtain ⟨hcalls, hrest, hpre⟩ := hP
  obtain ⟨-, -, -, hnamed, -, -, -, hat⟩ := (Spec.applies_iff hf).mp happ
  obtain ⟨hg, hn⟩ := and_e (Cond.before_iff.mp (show (Jvm.Cond.and given_1 narrow_1).before args s = true from hpre))
  obtain ⟨hcount, hg0⟩ := and_e hg
  obtain ⟨ha0, hg1⟩ := and_e hg0
  obtain ⟨ha1, hg2⟩ := and_e hg1
  obtain ⟨ha2, hg3⟩ := and_e hg2
  obtain ⟨ha3, hg4⟩ := and_e hg3
  obtain ⟨ha4, hg5⟩ := and_e hg4
  have ha5 := hg5
  obtain ⟨w0, w1, w2, w3, w4, w5, rfl⟩ : ∃ w0 w1 w2 w3 w4 w5 : Value, args = #[w0, w1, w2, w3, w4, w5] := by
    have hs : args.size = 6 := by simpa [Cond.value, given_1] using hcount
    obtain ⟨L⟩ := args
    match L, hs with
    | [w0, w1, w2, w3, w4, w5], _ => exact ⟨w0, w1, w2, w3, w4, w5, rfl⟩
  have hw := fun d (hd : d ∈ tables_1) => atoms_spec (ws := Jvm.Cond.code x code maxLocals ret :: tables_1) hat d (List.mem_cons_of_mem _ hd)
  have hfit : Fit s := fun {y c} hc i hi => by
    obtain ⟨ha, rfl⟩ := Array.getElem?_eq_some_iff.mp hc
    have q := List.all_eq_true.mp ((Array.all_eq_true_iff_forall_mem.mp hF) _ (Array.getElem_mem ha)) i (List.mem_range.mpr hi)
    simpa [Array.getElem?_eq_getElem hi] using q
  obtain ⟨i0, ei0⟩ := is_v ha0
  obtain rfl : w0 = (.int i0) := Option.some.inj ei0
  obtain ⟨i1, ei1⟩ := is_v ha1
  obtain rfl : w1 = (.int i1) := Option.some.inj ei1
  obtain ⟨i2, ei2⟩ := is_v ha2
  obtain rfl : w2 = (.int i2) := Option.some.inj ei2
  obtain ⟨i3, ei3⟩ := isL_v ha3
  obtain rfl : w3 = (.long i3) := Option.some.inj ei3
  obtain ⟨i4, ei4⟩ := isL_v ha4
  obtain rfl : w4 = (.long i4) := Option.some.inj ei4
  obtain ⟨i5, ei5⟩ := isL_v ha5
  obtain rfl : w5 = (.long i5) := Option.some.inj ei5
  obtain ⟨n, o, h1, h2, h3, _, L, rfl, ⟨rfl, N⟩, hq⟩ := rm0 l s _ hw tables_1 i0 i1 i2 i3 i4 i5  s.heap s.heap.size (Nat.le_refl _)  p e ha hc hk s m _ below hf ((Spec.applies_iff_loose hf).mp happ).1 ⟨rfl, State.Warmed39.refl s, rfl⟩ trivial
  refine ⟨n, _, h1, h2, h3, hpost _ _ _ _ _ _ ⟨Cond.after_iff.mpr rfl, Cond.after_iff.mpr (eq_i res_at (Term.int_eval (1)) rfl), trivial⟩ ⟨hq.1, hq.2.1, (hq.2.2.sift fun y hy => Or.inr (N y hy)).mono (by decide) (by decide)⟩⟩
theorem main_1_1 : Claimed_1_1 := comes_1 fun _ _ _ _ _ _ h hF => ⟨h.1, hF⟩
theorem main_1_2 : Claimed_1_2 := comes_1 fun _ _ _ _ _ _ h hF => ⟨h.2.1, hF⟩
end Jvm.Pilot.@@N@@
namespace Jvm.Pilot.@@N@@
open Jvm Jvm.ClassFile Sem Op Lib Jvm.Free Jvm.Stand Jvm.Pilot.@@N@@.Jvm.D
/-! MADE BY PROGRAM (witnessworld.py) out of the Statement's table words and the real class files: 19 classes; the members and pool entries that the words name. The judged class is class 1, her method 2. -/
namespace start1
open Jvm.ClassFile
def u (s : String) : CpInfo := .utf8 (stringToUtf16 s)
/-- a pool by its gaps: so many unusable entries, then the entry; so many at the end -/
def gap : Nat → List CpInfo → List CpInfo
  | 0, r => r
  | n + 1, r => .unusable :: gap n r
def poolList (es : List (Nat × CpInfo)) (last : Nat) : List CpInfo := es.foldr (fun e r => gap e.1 (e.2 :: r)) (gap last [])
def pool (es : List (Nat × CpInfo)) (last : Nat) : Array CpInfo := ⟨poolList es last⟩
def fileOf (pool : Array CpInfo) (this : Nat) (attrs : Array Attribute := #[]) (ms : Array MethodInfo := #[]) (fl : Nat := 33) (sup : Nat := 0) (ifs : Array Nat := #[]) (fds : Array FieldInfo := #[]) : ClassFile where
  minorVersion := 0
  majorVersion := 65
  constantPool := pool
  accessFlags := fl
  thisClass := this
  superClass := sup
  interfaces := ifs
  fields := fds
  methods := ms
  attributes := attrs
def plain (name : String) (sup : Option ClassId) : Class where
  name := name
  kind := .ordinary
  loader := none
  accessFlags := 33
  super := sup
  interfaces := #[]
  cf := none
  fields := #[]
  methods := #[]
  instanceTypes := #[]
  staticTypes := #[]
  resolved := #[]
  callSites := []
  init := .initialized
  statics := none
  mirror := none

def pool0 : Array CpInfo := pool [(5, u "<init>"), (0, u "()V"), (1, .class_ 10), (1, u "java/lang/Object")] 113

def k0c0 : Code := { maxStack := 0, maxLocals := 1, code := object_method_1_code, exceptionTable := #[], attributes := #[] }
def k0m0 : Method := { name := "<init>", desc := "()V", sig := { parameters := [], returnType := none }, accessFlags := 1, code := some k0c0 }
/-- java/lang/Object -/
def k0 : Class := { plain "java/lang/Object" none with
  accessFlags := 33
  interfaces := #[]
  cf := some (fileOf pool0 8 #[] #[{ accessFlags := 1, nameIndex := 5, descriptorIndex := 6, attributes := #[] }] 33 0 #[] #[])
  fields := #[]
  methods := #[k0m0]
  instanceTypes := #[]
  staticTypes := #[]
  resolved := Array.replicate 124 none
  statics := none }

def pool1 : Array CpInfo := pool [(2, .class_ 4), (0, .nameAndType 5 6), (0, u "java/lang/Object"), (0, u "<init>"), (0, u "()V"), (0, .long 1152921504606846975), (1, .long 3), (1, .class_ 12), (0, u "com/example/headwater/headwater/headdriven/EventCounts"), (0, .methodref 11 3), (0, .methodref 11 15), (0, .nameAndType 16 17), (0, u "addRoot"), (0, u "()I"), (0, .methodref 11 19), (0, .nameAndType 20 21), (0, u "add"), (0, u "(IIJ)V"), (0, .methodref 23 24), (0, .class_ 25), (0, .nameAndType 26 27), (0, u "com/example/headwater/headwater/headdriven/EventCountsMostExceptPinLaw"), (0, u "tot"), (0, u "(IIIIJJJ)J"), (0, .methodref 29 30), (0, .class_ 31), (0, .nameAndType 32 33), (0, u "java/lang/Math"), (0, u "max"), (0, u "(JJ)J"), (0, .methodref 11 35), (0, .nameAndType 36 37), (0, u "mostExcept"), (0, u "(II)J"), (3, u "law"), (0, u "(IIIJJJ)Z")] 2

def k1m0 : Method := { name := "<init>", desc := "()V", sig := { parameters := [], returnType := none }, accessFlags := 1, code := none }
def k1c1 : Code := { maxStack := 4, maxLocals := 12, code := method_2_code, exceptionTable := #[], attributes := #[] }
def k1m1 : Method := { name := "tot", desc := "(IIIIJJJ)J", sig := { parameters := [.int, .int, .int, .int, .long, .long, .long], returnType := some .long }, accessFlags := 10, code := some k1c1 }
def k1c2 : Code := { maxStack := 12, maxLocals := 24, code := code, exceptionTable := #[], attributes := #[] }
def k1m2 : Method := { name := "law", desc := "(IIIJJJ)Z", sig := { parameters := [.int, .int, .int, .long, .long, .long], returnType := some .boolean }, accessFlags := 9, code := some k1c2 }
/-- com/example/headwater/headwater/headdriven/EventCountsMostExceptPinLaw -/
def k1 : Class := { plain "com/example/headwater/headwater/headdriven/EventCountsMostExceptPinLaw" (some 0) with
  accessFlags := 49
  interfaces := #[]
  cf := some (fileOf pool1 23 #[] #[{ accessFlags := 1, nameIndex := 5, descriptorIndex := 6, attributes := #[] }, { accessFlags := 10, nameIndex := 26, descriptorIndex := 27, attributes := #[] }, { accessFlags := 9, nameIndex := 41, descriptorIndex := 42, attributes := #[] }] 49 2 #[] #[])
  fields := #[]
  methods := #[k1m0, k1m1, k1m2]
  instanceTypes := #[]
  staticTypes := #[]
  resolved := Array.replicate 45 none
  statics := none }

def pool2 : Array CpInfo := pool [(1, .methodref 2 3), (0, .class_ 4), (0, .nameAndType 5 6), (0, u "java/lang/Object"), (0, u "<init>"), (0, u "()V"), (0, .class_ 8), (0, u "com/example/headwater/headwater/headdriven/LongMap"), (0, .methodref 7 3), (0, .fieldref 11 12), (0, .class_ 13), (0, .nameAndType 14 15), (0, u "com/example/headwater/headwater/headdriven/EventCounts"), (0, u "m_aNodes"), (0, u "Lcom/example/headwater/headwater/headdriven/LongMap;"), (0, .fieldref 11 17), (0, .nameAndType 18 19), (0, u "m_aNodeCounts"), (0, u "[J"), (0, .fieldref 11 21), (0, .nameAndType 22 15), (0, u "m_aPairs"), (0, .long 4294967295), (1, .fieldref 11 26), (0, .nameAndType 27 28), (0, u "m_nRoots"), (0, u "I"), (0, .methodref 11 30), (0, .nameAndType 31 32), (0, u "_key"), (0, u "(II)J"), (0, .methodref 11 34), (0, .nameAndType 35 36), (0, u "_node"), (0, u "(J)I"), (0, .methodref 7 38), (0, .nameAndType 39 36), (0, u "intern"), (8, u "get"), (0, .methodref 50 51), (0, .class_ 52), (0, .nameAndType 53 54), (0, u "java/lang/Math"), (0, u "addExact"), (0, u "(JJ)J"), (0, .methodref 7 56), (0, .nameAndType 48 54), (0, .methodref 7 58), (0, .nameAndType 59 60), (0, u "put"), (0, u "(JJ)V"), (0, .long 4294967296), (1, .methodref 50 64), (0, .nameAndType 65 54), (0, u "max"), (0, u "NODE_WORDS"), (2, u "COUNT"), (1, u "FIRST_COUNT"), (1, u "SECOND_COUNT"), (1, u "DISTINCT_AND_FIRST"), (3, u "addRoot"), (0, u "()I"), (4, u "add"), (0, u "(IIJ)V"), (6, u "mostExcept")] 3

def k2c0 : Code := { maxStack := 3, maxLocals := 1, code := prog_34_method_1_code, exceptionTable := #[], attributes := #[] }
def k2m0 : Method := { name := "<init>", desc := "()V", sig := { parameters := [], returnType := none }, accessFlags := 0, code := some k2c0 }
def k2c1 : Code := { maxStack := 6, maxLocals := 2, code := prog_34_method_2_code, exceptionTable := #[], attributes := #[] }
def k2m1 : Method := { name := "_key", desc := "(II)J", sig := { parameters := [.int, .int], returnType := some .long }, accessFlags := 10, code := some k2c1 }
def k2c2 : Code := { maxStack := 6, maxLocals := 1, code := prog_34_method_3_code, exceptionTable := #[], attributes := #[] }
def k2m2 : Method := { name := "addRoot", desc := "()I", sig := { parameters := [], returnType := some .int }, accessFlags := 0, code := some k2c2 }
def k2c3 : Code := { maxStack := 4, maxLocals := 4, code := prog_34_method_5_code, exceptionTable := #[], attributes := #[] }
def k2m3 : Method := { name := "_node", desc := "(J)I", sig := { parameters := [.long], returnType := some .int }, accessFlags := 2, code := some k2c3 }
def k2c4 : Code := { maxStack := 6, maxLocals := 14, code := prog_34_method_7_code, exceptionTable := #[], attributes := #[] }
def k2m4 : Method := { name := "add", desc := "(IIJ)V", sig := { parameters := [.int, .int, .long], returnType := none }, accessFlags := 0, code := some k2c4 }
def k2c5 : Code := { maxStack := 3, maxLocals := 5, code := prog_34_method_13_code, exceptionTable := #[], attributes := #[] }
def k2m5 : Method := { name := "mostExcept", desc := "(II)J", sig := { parameters := [.int, .int], returnType := some .long }, accessFlags := 0, code := some k2c5 }
/-- com/example/headwater/headwater/headdriven/EventCounts -/
def k2 : Class := { plain "com/example/headwater/headwater/headdriven/EventCounts" (some 0) with
  accessFlags := 48
  interfaces := #[]
  cf := some (fileOf pool2 11 #[] #[{ accessFlags := 0, nameIndex := 5, descriptorIndex := 6, attributes := #[] }, { accessFlags := 10, nameIndex := 31, descriptorIndex := 32, attributes := #[] }, { accessFlags := 0, nameIndex := 79, descriptorIndex := 80, attributes := #[] }, { accessFlags := 2, nameIndex := 35, descriptorIndex := 36, attributes := #[] }, { accessFlags := 0, nameIndex := 85, descriptorIndex := 86, attributes := #[] }, { accessFlags := 0, nameIndex := 93, descriptorIndex := 32, attributes := #[] }] 48 2 #[] #[{ accessFlags := 26, nameIndex := 66, descriptorIndex := 28, attributes := #[] }, { accessFlags := 26, nameIndex := 69, descriptorIndex := 28, attributes := #[] }, { accessFlags := 26, nameIndex := 71, descriptorIndex := 28, attributes := #[] }, { accessFlags := 26, nameIndex := 73, descriptorIndex := 28, attributes := #[] }, { accessFlags := 26, nameIndex := 75, descriptorIndex := 28, attributes := #[] }, { accessFlags := 18, nameIndex := 14, descriptorIndex := 15, attributes := #[] }, { accessFlags := 2, nameIndex := 18, descriptorIndex := 19, attributes := #[] }, { accessFlags := 18, nameIndex := 22, descriptorIndex := 15, attributes := #[] }, { accessFlags := 2, nameIndex := 27, descriptorIndex := 28, attributes := #[] }])
  fields := #[{ name := "NODE_WORDS", type := .int, accessFlags := 26, slot := 0, constantValue := 0 }, { name := "COUNT", type := .int, accessFlags := 26, slot := 1, constantValue := 0 }, { name := "FIRST_COUNT", type := .int, accessFlags := 26, slot := 2, constantValue := 0 }, { name := "SECOND_COUNT", type := .int, accessFlags := 26, slot := 3, constantValue := 0 }, { name := "DISTINCT_AND_FIRST", type := .int, accessFlags := 26, slot := 4, constantValue := 0 }, { name := "m_aNodes", type := (.object "com/example/headwater/headwater/headdriven/LongMap"), accessFlags := 18, slot := 0, constantValue := 0 }, { name := "m_aNodeCounts", type := (.array .long), accessFlags := 2, slot := 1, constantValue := 0 }, { name := "m_aPairs", type := (.object "com/example/headwater/headwater/headdriven/LongMap"), accessFlags := 18, slot := 2, constantValue := 0 }, { name := "m_nRoots", type := .int, accessFlags := 2, slot := 3, constantValue := 0 }]
  methods := #[k2m0, k2m1, k2m2, k2m3, k2m4, k2m5]
  instanceTypes := #[(.object "com/example/headwater/headwater/headdriven/LongMap"), (.array .long), (.object "com/example/headwater/headwater/headdriven/LongMap"), .int]
  staticTypes := #[.int, .int, .int, .int, .int]
  resolved := Array.replicate 97 none
  statics := none }

def pool3 : Array CpInfo := pool [(1, .class_ 2), (0, u "java/lang/Long"), (0, .methodref 4 5), (0, .class_ 6), (0, .nameAndType 7 8), (0, u "java/lang/Object"), (0, u "<init>"), (0, u "()V"), (0, .fieldref 10 11), (0, .class_ 12), (0, .nameAndType 13 14), (0, u "com/example/headwater/headwater/headdriven/LongMap"), (0, u "m_aSlots"), (0, u "[J"), (0, .fieldref 10 16), (0, .nameAndType 17 14), (0, u "m_aMoving"), (0, .methodref 10 19), (0, .nameAndType 20 21), (0, u "_use"), (0, u "(I)V"), (0, .long 9223372036854775808), (1, .fieldref 10 25), (0, .nameAndType 26 27), (0, u "m_aUsed"), (0, u "[I"), (0, .fieldref 10 29), (0, .nameAndType 30 31), (0, u "m_nSize"), (0, u "I"), (0, .fieldref 10 33), (0, .nameAndType 34 31), (0, u "m_nSlots"), (0, .methodref 1 36), (0, .nameAndType 37 38), (0, u "numberOfLeadingZeros"), (0, u "(J)I"), (0, .fieldref 10 40), (0, .nameAndType 41 31), (0, u "m_nShift"), (0, .long 11400714819323198485), (1, .methodref 10 45), (0, .nameAndType 46 38), (0, u "_slot"), (0, .long 18446744073709551615), (1, .methodref 10 50), (0, .nameAndType 51 52), (0, u "get"), (0, u "(JJ)J"), (3, .methodref 10 57), (0, .nameAndType 51 38), (0, .methodref 10 59), (0, .nameAndType 60 61), (0, u "put"), (0, u "(JJ)V"), (3, u "ABSENT"), (2, u "FREE"), (0, u "J"), (0, u "FIRST_SLOTS"), (4, u "intern")] 7

def k3c0 : Code := { maxStack := 2, maxLocals := 1, code := prog_51_method_1_code, exceptionTable := #[], attributes := #[] }
def k3m0 : Method := { name := "<init>", desc := "()V", sig := { parameters := [], returnType := none }, accessFlags := 0, code := some k3c0 }
def k3c1 : Code := { maxStack := 5, maxLocals := 3, code := prog_51_method_2_code, exceptionTable := #[], attributes := #[] }
def k3m1 : Method := { name := "_use", desc := "(I)V", sig := { parameters := [.int], returnType := none }, accessFlags := 2, code := some k3c1 }
def k3c2 : Code := { maxStack := 4, maxLocals := 5, code := prog_51_method_3_code, exceptionTable := #[], attributes := #[] }
def k3m2 : Method := { name := "_slot", desc := "(J)I", sig := { parameters := [.long], returnType := some .int }, accessFlags := 2, code := some k3c2 }
def k3c3 : Code := { maxStack := 4, maxLocals := 6, code := prog_51_method_4_code, exceptionTable := #[], attributes := #[] }
def k3m3 : Method := { name := "get", desc := "(JJ)J", sig := { parameters := [.long, .long], returnType := some .long }, accessFlags := 0, code := some k3c3 }
def k3c4 : Code := { maxStack := 5, maxLocals := 3, code := prog_51_method_5_code, exceptionTable := #[], attributes := #[] }
def k3m4 : Method := { name := "get", desc := "(J)I", sig := { parameters := [.long], returnType := some .int }, accessFlags := 0, code := some k3c4 }
def k3c5 : Code := { maxStack := 5, maxLocals := 6, code := prog_51_method_6_code, exceptionTable := #[], attributes := #[] }
def k3m5 : Method := { name := "put", desc := "(JJ)V", sig := { parameters := [.long, .long], returnType := none }, accessFlags := 0, code := some k3c5 }
def k3c6 : Code := { maxStack := 5, maxLocals := 5, code := prog_51_method_7_code, exceptionTable := #[], attributes := #[] }
def k3m6 : Method := { name := "intern", desc := "(J)I", sig := { parameters := [.long], returnType := some .int }, accessFlags := 0, code := some k3c6 }
/-- com/example/headwater/headwater/headdriven/LongMap -/
def k3 : Class := { plain "com/example/headwater/headwater/headdriven/LongMap" (some 0) with
  accessFlags := 48
  interfaces := #[]
  cf := some (fileOf pool3 10 #[] #[{ accessFlags := 0, nameIndex := 7, descriptorIndex := 8, attributes := #[] }, { accessFlags := 2, nameIndex := 20, descriptorIndex := 21, attributes := #[] }, { accessFlags := 2, nameIndex := 46, descriptorIndex := 38, attributes := #[] }, { accessFlags := 0, nameIndex := 51, descriptorIndex := 52, attributes := #[] }, { accessFlags := 0, nameIndex := 51, descriptorIndex := 38, attributes := #[] }, { accessFlags := 0, nameIndex := 60, descriptorIndex := 61, attributes := #[] }, { accessFlags := 0, nameIndex := 75, descriptorIndex := 38, attributes := #[] }] 48 4 #[] #[{ accessFlags := 24, nameIndex := 65, descriptorIndex := 31, attributes := #[] }, { accessFlags := 26, nameIndex := 68, descriptorIndex := 69, attributes := #[] }, { accessFlags := 26, nameIndex := 70, descriptorIndex := 31, attributes := #[] }, { accessFlags := 2, nameIndex := 13, descriptorIndex := 14, attributes := #[] }, { accessFlags := 2, nameIndex := 26, descriptorIndex := 27, attributes := #[] }, { accessFlags := 2, nameIndex := 30, descriptorIndex := 31, attributes := #[] }, { accessFlags := 2, nameIndex := 34, descriptorIndex := 31, attributes := #[] }, { accessFlags := 2, nameIndex := 41, descriptorIndex := 31, attributes := #[] }, { accessFlags := 2, nameIndex := 17, descriptorIndex := 14, attributes := #[] }])
  fields := #[{ name := "ABSENT", type := .int, accessFlags := 24, slot := 0, constantValue := 0 }, { name := "FREE", type := .long, accessFlags := 26, slot := 1, constantValue := 0 }, { name := "FIRST_SLOTS", type := .int, accessFlags := 26, slot := 2, constantValue := 0 }, { name := "m_aSlots", type := (.array .long), accessFlags := 2, slot := 0, constantValue := 0 }, { name := "m_aUsed", type := (.array .int), accessFlags := 2, slot := 1, constantValue := 0 }, { name := "m_nSize", type := .int, accessFlags := 2, slot := 2, constantValue := 0 }, { name := "m_nSlots", type := .int, accessFlags := 2, slot := 3, constantValue := 0 }, { name := "m_nShift", type := .int, accessFlags := 2, slot := 4, constantValue := 0 }, { name := "m_aMoving", type := (.array .long), accessFlags := 2, slot := 5, constantValue := 0 }]
  methods := #[k3m0, k3m1, k3m2, k3m3, k3m4, k3m5, k3m6]
  instanceTypes := #[(.array .long), (.array .int), .int, .int, .int, (.array .long)]
  staticTypes := #[.int, .long, .int]
  resolved := Array.replicate 83 none
  statics := none }

def pool4 : Array CpInfo := pool [(1, .class_ 2), (0, u "java/io/Serializable"), (0, .class_ 4), (0, u "java/lang/Object")] 2

/-- java/io/Serializable -/
def k4 : Class := { plain "java/io/Serializable" (some 0) with
  accessFlags := 1537
  interfaces := #[]
  cf := some (fileOf pool4 1 #[] #[] 1537 3 #[] #[])
  fields := #[]
  methods := #[]
  instanceTypes := #[]
  staticTypes := #[]
  resolved := Array.replicate 7 none
  statics := none }

def pool5 : Array CpInfo := pool [(2, .class_ 4), (1, u "java/lang/Object"), (0, u "<init>"), (0, u "()V"), (1, .class_ 10), (1, u "java/lang/Number"), (2, .class_ 14), (0, u "java/io/Serializable"), (0, u "serialVersionUID"), (0, u "J")] 20

def k5m0 : Method := { name := "<init>", desc := "()V", sig := { parameters := [], returnType := none }, accessFlags := 1, code := none }
/-- java/lang/Number -/
def k5 : Class := { plain "java/lang/Number" (some 0) with
  accessFlags := 1057
  interfaces := #[4]
  cf := some (fileOf pool5 8 #[] #[{ accessFlags := 1, nameIndex := 5, descriptorIndex := 6, attributes := #[] }] 1057 2 #[13] #[{ accessFlags := 26, nameIndex := 15, descriptorIndex := 16, attributes := #[] }])
  fields := #[{ name := "serialVersionUID", type := .long, accessFlags := 26, slot := 0, constantValue := 0 }]
  methods := #[k5m0]
  instanceTypes := #[]
  staticTypes := #[.long]
  resolved := Array.replicate 37 none
  statics := none }

def pool6 : Array CpInfo := pool [(1, .class_ 2), (0, u "java/lang/Comparable"), (0, .class_ 4), (0, u "java/lang/Object")] 7

/-- java/lang/Comparable -/
def k6 : Class := { plain "java/lang/Comparable" (some 0) with
  accessFlags := 1537
  interfaces := #[]
  cf := some (fileOf pool6 1 #[] #[] 1537 3 #[] #[])
  fields := #[]
  methods := #[]
  instanceTypes := #[]
  staticTypes := #[]
  resolved := Array.replicate 12 none
  statics := none }

def pool7 : Array CpInfo := pool [(1, .class_ 2), (0, u "java/lang/constant/Constable"), (0, .class_ 4), (0, u "java/lang/Object")] 6

/-- java/lang/constant/Constable -/
def k7 : Class := { plain "java/lang/constant/Constable" (some 0) with
  accessFlags := 1537
  interfaces := #[]
  cf := some (fileOf pool7 1 #[] #[] 1537 3 #[] #[])
  fields := #[]
  methods := #[]
  instanceTypes := #[]
  staticTypes := #[]
  resolved := Array.replicate 11 none
  statics := none }

def pool8 : Array CpInfo := pool [(1, .class_ 2), (0, u "java/lang/constant/ConstantDesc"), (0, .class_ 4), (0, u "java/lang/Object")] 32

/-- java/lang/constant/ConstantDesc -/
def k8 : Class := { plain "java/lang/constant/ConstantDesc" (some 0) with
  accessFlags := 1537
  interfaces := #[]
  cf := some (fileOf pool8 1 #[] #[] 1537 3 #[] #[])
  fields := #[]
  methods := #[]
  instanceTypes := #[]
  staticTypes := #[]
  resolved := Array.replicate 37 none
  statics := none }

def pool9 : Array CpInfo := pool [(1, .class_ 2), (0, u "java/lang/Long"), (15, .class_ 20), (1, u "java/lang/Integer"), (79, u "numberOfLeadingZeros"), (0, u "(J)I"), (133, .class_ 237), (1, u "java/lang/Long$LongCache"), (33, .class_ 272), (0, u "java/lang/Number"), (2, u "value"), (0, u "J"), (31, .methodref 18 309), (0, .nameAndType 100 310), (0, u "(I)I"), (50, u "TYPE"), (0, u "Ljava/lang/Class;"), (0, .class_ 364), (0, u "java/lang/Comparable"), (0, .class_ 366), (0, u "java/lang/constant/Constable"), (0, .class_ 368), (0, u "java/lang/constant/ConstantDesc"), (0, u "MIN_VALUE"), (1, u "MAX_VALUE"), (4, u "SIZE"), (0, u "I"), (1, u "BYTES"), (1, u "serialVersionUID")] 142

def k9c0 : Code := { maxStack := 3, maxLocals := 3, code := jdk_35_method_48_code, exceptionTable := #[], attributes := #[] }
def k9m0 : Method := { name := "numberOfLeadingZeros", desc := "(J)I", sig := { parameters := [.long], returnType := some .int }, accessFlags := 9, code := some k9c0 }
/-- java/lang/Long -/
def k9 : Class := { plain "java/lang/Long" (some 5) with
  accessFlags := 49
  interfaces := #[6, 7, 8]
  cf := some (fileOf pool9 1 #[.nestMembers #[235]] #[{ accessFlags := 9, nameIndex := 100, descriptorIndex := 101, attributes := #[] }] 49 271 #[363, 365, 367] #[{ accessFlags := 25, nameIndex := 369, descriptorIndex := 276, attributes := #[] }, { accessFlags := 25, nameIndex := 371, descriptorIndex := 276, attributes := #[] }, { accessFlags := 25, nameIndex := 361, descriptorIndex := 362, attributes := #[] }, { accessFlags := 18, nameIndex := 275, descriptorIndex := 276, attributes := #[] }, { accessFlags := 25, nameIndex := 376, descriptorIndex := 377, attributes := #[] }, { accessFlags := 25, nameIndex := 379, descriptorIndex := 377, attributes := #[] }, { accessFlags := 26, nameIndex := 381, descriptorIndex := 276, attributes := #[] }])
  fields := #[{ name := "MIN_VALUE", type := .long, accessFlags := 25, slot := 0, constantValue := 0 }, { name := "MAX_VALUE", type := .long, accessFlags := 25, slot := 1, constantValue := 0 }, { name := "TYPE", type := (.object "java/lang/Class"), accessFlags := 25, slot := 2, constantValue := 0 }, { name := "value", type := .long, accessFlags := 18, slot := 0, constantValue := 0 }, { name := "SIZE", type := .int, accessFlags := 25, slot := 3, constantValue := 0 }, { name := "BYTES", type := .int, accessFlags := 25, slot := 4, constantValue := 0 }, { name := "serialVersionUID", type := .long, accessFlags := 26, slot := 5, constantValue := 0 }]
  methods := #[k9m0]
  instanceTypes := #[.long]
  staticTypes := #[.long, .long, (.object "java/lang/Class"), .int, .int, .long]
  resolved := Array.replicate 524 none
  statics := none }

def pool10 : Array CpInfo := pool [(1, .class_ 2), (0, u "java/lang/Integer"), (16, u "digits"), (0, u "[C"), (32, u "numberOfLeadingZeros"), (0, u "(I)I"), (30, u "DigitOnes"), (0, u "[B"), (2, u "DigitTens"), (99, .class_ 190), (0, u "java/lang/Integer$IntegerCache"), (3, u "I"), (8, .class_ 204), (0, u "java/lang/Number"), (2, u "value"), (56, .integer 65536), (37, u "TYPE"), (0, u "Ljava/lang/Class;"), (0, .class_ 305), (0, u "java/lang/Comparable"), (0, .class_ 307), (0, u "java/lang/constant/Constable"), (0, .class_ 309), (0, u "java/lang/constant/ConstantDesc"), (0, u "MIN_VALUE"), (1, u "MAX_VALUE"), (3, u "SIZE"), (1, u "BYTES"), (1, u "serialVersionUID"), (0, u "J")] 131

def k10c0 : Code := { maxStack := 3, maxLocals := 2, code := jdk_33_method_47_code, exceptionTable := #[], attributes := #[] }
def k10m0 : Method := { name := "numberOfLeadingZeros", desc := "(I)I", sig := { parameters := [.int], returnType := some .int }, accessFlags := 9, code := some k10c0 }
/-- java/lang/Integer -/
def k10 : Class := { plain "java/lang/Integer" (some 5) with
  accessFlags := 49
  interfaces := #[6, 7, 8]
  cf := some (fileOf pool10 1 #[.nestMembers #[189]] #[{ accessFlags := 9, nameIndex := 53, descriptorIndex := 54, attributes := #[] }] 49 203 #[304, 306, 308] #[{ accessFlags := 25, nameIndex := 310, descriptorIndex := 194, attributes := #[] }, { accessFlags := 25, nameIndex := 312, descriptorIndex := 194, attributes := #[] }, { accessFlags := 25, nameIndex := 302, descriptorIndex := 303, attributes := #[] }, { accessFlags := 24, nameIndex := 19, descriptorIndex := 20, attributes := #[] }, { accessFlags := 24, nameIndex := 89, descriptorIndex := 86, attributes := #[] }, { accessFlags := 24, nameIndex := 85, descriptorIndex := 86, attributes := #[] }, { accessFlags := 18, nameIndex := 207, descriptorIndex := 194, attributes := #[] }, { accessFlags := 25, nameIndex := 316, descriptorIndex := 194, attributes := #[] }, { accessFlags := 25, nameIndex := 318, descriptorIndex := 194, attributes := #[] }, { accessFlags := 26, nameIndex := 320, descriptorIndex := 321, attributes := #[] }])
  fields := #[{ name := "MIN_VALUE", type := .int, accessFlags := 25, slot := 0, constantValue := 0 }, { name := "MAX_VALUE", type := .int, accessFlags := 25, slot := 1, constantValue := 0 }, { name := "TYPE", type := (.object "java/lang/Class"), accessFlags := 25, slot := 2, constantValue := 0 }, { name := "digits", type := (.array .char), accessFlags := 24, slot := 3, constantValue := 0 }, { name := "DigitTens", type := (.array .byte), accessFlags := 24, slot := 4, constantValue := 0 }, { name := "DigitOnes", type := (.array .byte), accessFlags := 24, slot := 5, constantValue := 0 }, { name := "value", type := .int, accessFlags := 18, slot := 0, constantValue := 0 }, { name := "SIZE", type := .int, accessFlags := 25, slot := 6, constantValue := 0 }, { name := "BYTES", type := .int, accessFlags := 25, slot := 7, constantValue := 0 }, { name := "serialVersionUID", type := .long, accessFlags := 26, slot := 8, constantValue := 0 }]
  methods := #[k10m0]
  instanceTypes := #[.int]
  staticTypes := #[.int, .int, (.object "java/lang/Class"), (.array .char), (.array .byte), (.array .byte), .int, .int, .long]
  resolved := Array.replicate 453 none
  statics := none }

def pool11 : Array CpInfo := pool [(1, .class_ 2), (0, u "java/lang/Math"), (1, .class_ 6), (1, u "java/lang/Object"), (0, u "<init>"), (0, u "()V"), (89, .class_ 100), (1, u "java/lang/Math$RandomNumberGeneratorHolder"), (20, u "(JJ)J"), (50, u "negativeZeroFloatBits"), (0, u "J"), (2, u "negativeZeroDoubleBits"), (21, u "max"), (46, u "$assertionsDisabled"), (0, u "Z"), (91, u "twoToTheDoubleScaleDown"), (0, u "D"), (4, u "twoToTheDoubleScaleUp"), (9, u "E"), (3, u "PI"), (2, u "TAU"), (2, u "DEGREES_TO_RADIANS"), (0, u "RADIANS_TO_DEGREES"), (27, u "addExact")] 66

def k11m0 : Method := { name := "<init>", desc := "()V", sig := { parameters := [], returnType := none }, accessFlags := 2, code := none }
def k11c1 : Code := { maxStack := 6, maxLocals := 6, code := jdk_29_method_25_code, exceptionTable := #[], attributes := #[] }
def k11m1 : Method := { name := "addExact", desc := "(JJ)J", sig := { parameters := [.long, .long], returnType := some .long }, accessFlags := 9, code := some k11c1 }
def k11c2 : Code := { maxStack := 4, maxLocals := 4, code := jdk_29_method_66_code, exceptionTable := #[], attributes := #[] }
def k11m2 : Method := { name := "max", desc := "(JJ)J", sig := { parameters := [.long, .long], returnType := some .long }, accessFlags := 9, code := some k11c2 }
/-- java/lang/Math -/
def k11 : Class := { plain "java/lang/Math" (some 0) with
  accessFlags := 49
  interfaces := #[]
  cf := some (fileOf pool11 1 #[.nestMembers #[98]] #[{ accessFlags := 2, nameIndex := 7, descriptorIndex := 8, attributes := #[] }, { accessFlags := 9, nameIndex := 393, descriptorIndex := 121, attributes := #[] }, { accessFlags := 9, nameIndex := 198, descriptorIndex := 121, attributes := #[] }] 49 4 #[] #[{ accessFlags := 25, nameIndex := 354, descriptorIndex := 339, attributes := #[] }, { accessFlags := 25, nameIndex := 358, descriptorIndex := 339, attributes := #[] }, { accessFlags := 25, nameIndex := 361, descriptorIndex := 339, attributes := #[] }, { accessFlags := 26, nameIndex := 364, descriptorIndex := 339, attributes := #[] }, { accessFlags := 26, nameIndex := 365, descriptorIndex := 339, attributes := #[] }, { accessFlags := 26, nameIndex := 172, descriptorIndex := 173, attributes := #[] }, { accessFlags := 26, nameIndex := 176, descriptorIndex := 173, attributes := #[] }, { accessFlags := 8, nameIndex := 344, descriptorIndex := 339, attributes := #[] }, { accessFlags := 8, nameIndex := 338, descriptorIndex := 339, attributes := #[] }, { accessFlags := 4120, nameIndex := 245, descriptorIndex := 246, attributes := #[] }])
  fields := #[{ name := "E", type := .double, accessFlags := 25, slot := 0, constantValue := 0 }, { name := "PI", type := .double, accessFlags := 25, slot := 1, constantValue := 0 }, { name := "TAU", type := .double, accessFlags := 25, slot := 2, constantValue := 0 }, { name := "DEGREES_TO_RADIANS", type := .double, accessFlags := 26, slot := 3, constantValue := 0 }, { name := "RADIANS_TO_DEGREES", type := .double, accessFlags := 26, slot := 4, constantValue := 0 }, { name := "negativeZeroFloatBits", type := .long, accessFlags := 26, slot := 5, constantValue := 0 }, { name := "negativeZeroDoubleBits", type := .long, accessFlags := 26, slot := 6, constantValue := 0 }, { name := "twoToTheDoubleScaleUp", type := .double, accessFlags := 8, slot := 7, constantValue := 0 }, { name := "twoToTheDoubleScaleDown", type := .double, accessFlags := 8, slot := 8, constantValue := 0 }, { name := "$assertionsDisabled", type := .boolean, accessFlags := 4120, slot := 9, constantValue := 0 }]
  methods := #[k11m0, k11m1, k11m2]
  instanceTypes := #[]
  staticTypes := #[.double, .double, .double, .double, .double, .long, .long, .double, .double, .boolean]
  resolved := Array.replicate 460 none
  statics := none }

def pool12 : Array CpInfo := pool [(1, u "java/lang/Cloneable"), (0, .class_ 1), (0, u "java/lang/Object"), (0, .class_ 3)] 3

/-- java/lang/Cloneable -/
def k12 : Class := { plain "java/lang/Cloneable" (some 0) with
  accessFlags := 1537
  interfaces := #[]
  cf := some (fileOf pool12 2 #[] #[] 1537 4 #[] #[])
  fields := #[]
  methods := #[]
  instanceTypes := #[]
  staticTypes := #[]
  resolved := Array.replicate 8 none
  statics := none }

/-- the primitive byte -/
def k13 : Class := { plain "byte" none with kind := .primitive 'B', accessFlags := 0x411 }
/-- [B -/
def k14 : Class := { plain "[B" (some 0) with kind := .array 13 .byte, interfaces := #[12, 4], accessFlags := 1041 }

/-- the primitive int -/
def k15 : Class := { plain "int" none with kind := .primitive 'I', accessFlags := 0x411 }
/-- [I -/
def k16 : Class := { plain "[I" (some 0) with kind := .array 15 .int, interfaces := #[12, 4], accessFlags := 1041 }

/-- the primitive long -/
def k17 : Class := { plain "long" none with kind := .primitive 'J', accessFlags := 0x411 }
/-- [J -/
def k18 : Class := { plain "[J" (some 0) with kind := .array 17 .long, interfaces := #[12, 4], accessFlags := 1041 }

def heap : Heap := #[]
def classes : Array Class := #[k0, k1, k2, k3, k4, k5, k6, k7, k8, k9, k10, k11, k12, k13, k14, k15, k16, k17, k18]
def interned : List (Array UInt16 × Addr) := []
def slotsUsed : Nat := 0
def theMethod : MethodId := ⟨1, 2⟩
def args0 : Array Value := #[.int 1, .int 2, .int 3, .long 4, .long 5, .long 6]
def aboutOver (below : List Frame) : State where
  vm := { classes := classes, interned := interned.toArray }
  heap := heap
  slotsUsed := slotsUsed
  threads := #[{ frames := .invoking theMethod args0 :: below }]
def below0 : List Frame := [.native { method := ⟨0, 0⟩, args := #[] }]
def about1 : State := aboutOver below0
def p0 : Program := .bare "" "" ""
def e0 : Env := launch0.env 0 0 0
theorem w_frames : about1.frames = Frame.invoking theMethod args0 :: below0 := rfl
set_option maxRecDepth 65536 in
theorem w_args : argsFit about1.vm theMethod args0 = true := by decide +kernel
set_option maxRecDepth 65536 in
theorem w_heap : heapFits about1 = true := by decide +kernel
set_option maxRecDepth 65536 in
theorem w_runnable : about1.curStatus? = some .runnable := by decide +kernel
set_option maxRecDepth 65536 in
theorem w_alone : about1.alone = true := by decide +kernel
set_option maxRecDepth 65536 in
theorem w_named : about1.methodNamed? x = some theMethod := by decide +kernel
set_option maxRecDepth 65536 in
theorem w_hears : about1.hears theMethod below0 = true := by decide +kernel
set_option maxRecDepth 65536 in
theorem w_ripe : about1.ripe theMethod args0 below0 = true := by decide +kernel
theorem w_running : about1.status = .running := rfl
set_option maxRecDepth 65536 in
theorem w_room : about1.hasRoom e0.platform room_1 = true :=
  launch0.hasRoom_least _ room_1 (by decide +kernel) (by decide +kernel) (by decide +kernel) (by decide +kernel) (by decide +kernel) (by decide +kernel)
theorem allAtoms_all (ts : List Jvm.Cond) (a : Array Jvm.Value) (st : Jvm.State) : (allAtoms ts).before a st = ts.all (fun c => c.before a st) := by
  induction ts with
  | nil => rfl
  | cons c t ih =>
    show (Jvm.Cond.and c (allAtoms t)).before a st = _
    rw [Jvm.Cond.before_and, ih, List.all_cons]
def words1 : List Jvm.Cond := Jvm.Cond.code x code maxLocals ret :: tables_1
/-- a 'code' word, met by the world's own term for the bytes: nothing is compared byte by byte -/
theorem code_word {y : MethodName} {bytes : ByteArray} {mx : Nat} {rt : Option FieldType} {a : Array Value} {s : State} {m : MethodId} {meth : Method} {c : Code} (h1 : s.methodNamed? y = some m) (h2 : s.vm.method? m = some meth) (h3 : meth.code = some c) (h4 : c.code = bytes)
    (h5 : (c.maxLocals == mx && c.exceptionTable.isEmpty && decide (c.maxStack ≤ mostOperands) && decide (meth.sig.returnType = rt) && !meth.locks && decide (parseMethodDescriptor y.desc = some meth.sig)) = true) : (Jvm.Cond.code y bytes mx rt).before a s = true := by
  simp only [Bool.and_eq_true, beq_iff_eq, Bool.not_eq_true', decide_eq_true_eq] at h5
  obtain ⟨⟨⟨⟨⟨g1, g2⟩, g3⟩, g4⟩, g5⟩, g6⟩ := h5
  simp [Cond.before, Cond.holds, Cond.value, h1, h2, h3, h4, g1, g2, g3, g4, g5, g6]
def isCode : Jvm.Cond → Bool
  | .code _ _ _ _ => true
  | _ => false
theorem all_split {L : List Jvm.Cond} {P : Jvm.Cond → Bool} (h1 : L.all (fun c => isCode c || P c) = true) (h2 : ∀ c ∈ L.filter isCode, P c = true) : L.all P = true := by
  refine List.all_eq_true.mpr fun c hc => ?_
  have h := List.all_eq_true.mp h1 c hc
  rcases Bool.eq_false_or_eq_true (isCode c) with hi | hi
  · exact h2 c (List.mem_filter.mpr ⟨hc, hi⟩)
  · simpa [hi] using h
set_option maxRecDepth 65536 in
theorem w_c0 : (Jvm.Cond.code x code maxLocals ret).before args0 about1 = true := code_word (m := ⟨1, 2⟩) (meth := k1m2) (c := k1c2) (by decide +kernel) rfl rfl rfl (by decide +kernel)
set_option maxRecDepth 65536 in
theorem w_c1 : (Jvm.Cond.code ({ cls := "com/example/headwater/headwater/headdriven/EventCounts", name := "<init>", desc := "()V" } : Jvm.MethodName) prog_34_method_1_code (1 : Nat) (Option.none : Option Jvm.ClassFile.FieldType)).before args0 about1 = true := code_word (m := ⟨2, 0⟩) (meth := k2m0) (c := k2c0) (by decide +kernel) rfl rfl rfl (by decide +kernel)
set_option maxRecDepth 65536 in
theorem w_c2 : (Jvm.Cond.code ({ cls := "java/lang/Object", name := "<init>", desc := "()V" } : Jvm.MethodName) object_method_1_code (1 : Nat) (Option.none : Option Jvm.ClassFile.FieldType)).before args0 about1 = true := code_word (m := ⟨0, 0⟩) (meth := k0m0) (c := k0c0) (by decide +kernel) rfl rfl rfl (by decide +kernel)
set_option maxRecDepth 65536 in
theorem w_c3 : (Jvm.Cond.code ({ cls := "com/example/headwater/headwater/headdriven/LongMap", name := "<init>", desc := "()V" } : Jvm.MethodName) prog_51_method_1_code (1 : Nat) (Option.none : Option Jvm.ClassFile.FieldType)).before args0 about1 = true := code_word (m := ⟨3, 0⟩) (meth := k3m0) (c := k3c0) (by decide +kernel) rfl rfl rfl (by decide +kernel)
set_option maxRecDepth 65536 in
theorem w_c4 : (Jvm.Cond.code ({ cls := "com/example/headwater/headwater/headdriven/LongMap", name := "_use", desc := "(I)V" } : Jvm.MethodName) prog_51_method_2_code (3 : Nat) (Option.none : Option Jvm.ClassFile.FieldType)).before args0 about1 = true := code_word (m := ⟨3, 1⟩) (meth := k3m1) (c := k3c1) (by decide +kernel) rfl rfl rfl (by decide +kernel)
set_option maxRecDepth 65536 in
theorem w_c5 : (Jvm.Cond.code ({ cls := "java/lang/Long", name := "numberOfLeadingZeros", desc := "(J)I" } : Jvm.MethodName) jdk_35_method_48_code (3 : Nat) (Option.some Jvm.ClassFile.FieldType.int)).before args0 about1 = true := code_word (m := ⟨9, 0⟩) (meth := k9m0) (c := k9c0) (by decide +kernel) rfl rfl rfl (by decide +kernel)
set_option maxRecDepth 65536 in
theorem w_c6 : (Jvm.Cond.code ({ cls := "java/lang/Integer", name := "numberOfLeadingZeros", desc := "(I)I" } : Jvm.MethodName) jdk_33_method_47_code (2 : Nat) (Option.some Jvm.ClassFile.FieldType.int)).before args0 about1 = true := code_word (m := ⟨10, 0⟩) (meth := k10m0) (c := k10c0) (by decide +kernel) rfl rfl rfl (by decide +kernel)
set_option maxRecDepth 65536 in
theorem w_c7 : (Jvm.Cond.code ({ cls := "com/example/headwater/headwater/headdriven/EventCounts", name := "addRoot", desc := "()I" } : Jvm.MethodName) prog_34_method_3_code (1 : Nat) (Option.some Jvm.ClassFile.FieldType.int)).before args0 about1 = true := code_word (m := ⟨2, 2⟩) (meth := k2m2) (c := k2c2) (by decide +kernel) rfl rfl rfl (by decide +kernel)
set_option maxRecDepth 65536 in
theorem w_c8 : (Jvm.Cond.code ({ cls := "com/example/headwater/headwater/headdriven/EventCounts", name := "_key", desc := "(II)J" } : Jvm.MethodName) prog_34_method_2_code (2 : Nat) (Option.some Jvm.ClassFile.FieldType.long)).before args0 about1 = true := code_word (m := ⟨2, 1⟩) (meth := k2m1) (c := k2c1) (by decide +kernel) rfl rfl rfl (by decide +kernel)
set_option maxRecDepth 65536 in
theorem w_c9 : (Jvm.Cond.code ({ cls := "com/example/headwater/headwater/headdriven/EventCounts", name := "_node", desc := "(J)I" } : Jvm.MethodName) prog_34_method_5_code (4 : Nat) (Option.some Jvm.ClassFile.FieldType.int)).before args0 about1 = true := code_word (m := ⟨2, 3⟩) (meth := k2m3) (c := k2c3) (by decide +kernel) rfl rfl rfl (by decide +kernel)
set_option maxRecDepth 65536 in
theorem w_c10 : (Jvm.Cond.code ({ cls := "com/example/headwater/headwater/headdriven/LongMap", name := "intern", desc := "(J)I" } : Jvm.MethodName) prog_51_method_7_code (5 : Nat) (Option.some Jvm.ClassFile.FieldType.int)).before args0 about1 = true := code_word (m := ⟨3, 6⟩) (meth := k3m6) (c := k3c6) (by decide +kernel) rfl rfl rfl (by decide +kernel)
set_option maxRecDepth 65536 in
theorem w_c11 : (Jvm.Cond.code ({ cls := "com/example/headwater/headwater/headdriven/LongMap", name := "get", desc := "(J)I" } : Jvm.MethodName) prog_51_method_5_code (3 : Nat) (Option.some Jvm.ClassFile.FieldType.int)).before args0 about1 = true := code_word (m := ⟨3, 4⟩) (meth := k3m4) (c := k3c4) (by decide +kernel) rfl rfl rfl (by decide +kernel)
set_option maxRecDepth 65536 in
theorem w_c12 : (Jvm.Cond.code ({ cls := "com/example/headwater/headwater/headdriven/LongMap", name := "get", desc := "(JJ)J" } : Jvm.MethodName) prog_51_method_4_code (6 : Nat) (Option.some Jvm.ClassFile.FieldType.long)).before args0 about1 = true := code_word (m := ⟨3, 3⟩) (meth := k3m3) (c := k3c3) (by decide +kernel) rfl rfl rfl (by decide +kernel)
set_option maxRecDepth 65536 in
theorem w_c13 : (Jvm.Cond.code ({ cls := "com/example/headwater/headwater/headdriven/LongMap", name := "_slot", desc := "(J)I" } : Jvm.MethodName) prog_51_method_3_code (5 : Nat) (Option.some Jvm.ClassFile.FieldType.int)).before args0 about1 = true := code_word (m := ⟨3, 2⟩) (meth := k3m2) (c := k3c2) (by decide +kernel) rfl rfl rfl (by decide +kernel)
set_option maxRecDepth 65536 in
theorem w_c14 : (Jvm.Cond.code ({ cls := "com/example/headwater/headwater/headdriven/LongMap", name := "put", desc := "(JJ)V" } : Jvm.MethodName) prog_51_method_6_code (6 : Nat) (Option.none : Option Jvm.ClassFile.FieldType)).before args0 about1 = true := code_word (m := ⟨3, 5⟩) (meth := k3m5) (c := k3c5) (by decide +kernel) rfl rfl rfl (by decide +kernel)
set_option maxRecDepth 65536 in
theorem w_c15 : (Jvm.Cond.code ({ cls := "com/example/headwater/headwater/headdriven/EventCounts", name := "add", desc := "(IIJ)V" } : Jvm.MethodName) prog_34_method_7_code (14 : Nat) (Option.none : Option Jvm.ClassFile.FieldType)).before args0 about1 = true := code_word (m := ⟨2, 4⟩) (meth := k2m4) (c := k2c4) (by decide +kernel) rfl rfl rfl (by decide +kernel)
set_option maxRecDepth 65536 in
theorem w_c16 : (Jvm.Cond.code ({ cls := "java/lang/Math", name := "addExact", desc := "(JJ)J" } : Jvm.MethodName) jdk_29_method_25_code (6 : Nat) (Option.some Jvm.ClassFile.FieldType.long)).before args0 about1 = true := code_word (m := ⟨11, 1⟩) (meth := k11m1) (c := k11c1) (by decide +kernel) rfl rfl rfl (by decide +kernel)
set_option maxRecDepth 65536 in
theorem w_c17 : (Jvm.Cond.code ({ cls := "java/lang/Math", name := "max", desc := "(JJ)J" } : Jvm.MethodName) jdk_29_method_66_code (4 : Nat) (Option.some Jvm.ClassFile.FieldType.long)).before args0 about1 = true := code_word (m := ⟨11, 2⟩) (meth := k11m2) (c := k11c2) (by decide +kernel) rfl rfl rfl (by decide +kernel)
set_option maxRecDepth 65536 in
theorem w_c18 : (Jvm.Cond.code ({ cls := "com/example/headwater/headwater/headdriven/EventCountsMostExceptPinLaw", name := "tot", desc := "(IIIIJJJ)J" } : Jvm.MethodName) method_2_code (12 : Nat) (Option.some Jvm.ClassFile.FieldType.long)).before args0 about1 = true := code_word (m := ⟨1, 1⟩) (meth := k1m1) (c := k1c1) (by decide +kernel) rfl rfl rfl (by decide +kernel)
set_option maxRecDepth 65536 in
theorem w_c19 : (Jvm.Cond.code ({ cls := "com/example/headwater/headwater/headdriven/EventCounts", name := "mostExcept", desc := "(II)J" } : Jvm.MethodName) prog_34_method_13_code (5 : Nat) (Option.some Jvm.ClassFile.FieldType.long)).before args0 about1 = true := code_word (m := ⟨2, 5⟩) (meth := k2m5) (c := k2c5) (by decide +kernel) rfl rfl rfl (by decide +kernel)
def codes1 : List Jvm.Cond := [Jvm.Cond.code x code maxLocals ret, Jvm.Cond.code ({ cls := "com/example/headwater/headwater/headdriven/EventCounts", name := "<init>", desc := "()V" } : Jvm.MethodName) prog_34_method_1_code (1 : Nat) (Option.none : Option Jvm.ClassFile.FieldType), Jvm.Cond.code ({ cls := "java/lang/Object", name := "<init>", desc := "()V" } : Jvm.MethodName) object_method_1_code (1 : Nat) (Option.none : Option Jvm.ClassFile.FieldType), Jvm.Cond.code ({ cls := "com/example/headwater/headwater/headdriven/LongMap", name := "<init>", desc := "()V" } : Jvm.MethodName) prog_51_method_1_code (1 : Nat) (Option.none : Option Jvm.ClassFile.FieldType), Jvm.Cond.code ({ cls := "com/example/headwater/headwater/headdriven/LongMap", name := "_use", desc := "(I)V" } : Jvm.MethodName) prog_51_method_2_code (3 : Nat) (Option.none : Option Jvm.ClassFile.FieldType), Jvm.Cond.code ({ cls := "java/lang/Long", name := "numberOfLeadingZeros", desc := "(J)I" } : Jvm.MethodName) jdk_35_method_48_code (3 : Nat) (Option.some Jvm.ClassFile.FieldType.int), Jvm.Cond.code ({ cls := "java/lang/Integer", name := "numberOfLeadingZeros", desc := "(I)I" } : Jvm.MethodName) jdk_33_method_47_code (2 : Nat) (Option.some Jvm.ClassFile.FieldType.int), Jvm.Cond.code ({ cls := "com/example/headwater/headwater/headdriven/EventCounts", name := "addRoot", desc := "()I" } : Jvm.MethodName) prog_34_method_3_code (1 : Nat) (Option.some Jvm.ClassFile.FieldType.int), Jvm.Cond.code ({ cls := "com/example/headwater/headwater/headdriven/EventCounts", name := "_key", desc := "(II)J" } : Jvm.MethodName) prog_34_method_2_code (2 : Nat) (Option.some Jvm.ClassFile.FieldType.long), Jvm.Cond.code ({ cls := "com/example/headwater/headwater/headdriven/EventCounts", name := "_node", desc := "(J)I" } : Jvm.MethodName) prog_34_method_5_code (4 : Nat) (Option.some Jvm.ClassFile.FieldType.int), Jvm.Cond.code ({ cls := "com/example/headwater/headwater/headdriven/LongMap", name := "intern", desc := "(J)I" } : Jvm.MethodName) prog_51_method_7_code (5 : Nat) (Option.some Jvm.ClassFile.FieldType.int), Jvm.Cond.code ({ cls := "com/example/headwater/headwater/headdriven/LongMap", name := "get", desc := "(J)I" } : Jvm.MethodName) prog_51_method_5_code (3 : Nat) (Option.some Jvm.ClassFile.FieldType.int), Jvm.Cond.code ({ cls := "com/example/headwater/headwater/headdriven/LongMap", name := "get", desc := "(JJ)J" } : Jvm.MethodName) prog_51_method_4_code (6 : Nat) (Option.some Jvm.ClassFile.FieldType.long), Jvm.Cond.code ({ cls := "com/example/headwater/headwater/headdriven/LongMap", name := "_slot", desc := "(J)I" } : Jvm.MethodName) prog_51_method_3_code (5 : Nat) (Option.some Jvm.ClassFile.FieldType.int), Jvm.Cond.code ({ cls := "com/example/headwater/headwater/headdriven/LongMap", name := "put", desc := "(JJ)V" } : Jvm.MethodName) prog_51_method_6_code (6 : Nat) (Option.none : Option Jvm.ClassFile.FieldType), Jvm.Cond.code ({ cls := "com/example/headwater/headwater/headdriven/EventCounts", name := "add", desc := "(IIJ)V" } : Jvm.MethodName) prog_34_method_7_code (14 : Nat) (Option.none : Option Jvm.ClassFile.FieldType), Jvm.Cond.code ({ cls := "java/lang/Math", name := "addExact", desc := "(JJ)J" } : Jvm.MethodName) jdk_29_method_25_code (6 : Nat) (Option.some Jvm.ClassFile.FieldType.long), Jvm.Cond.code ({ cls := "java/lang/Math", name := "max", desc := "(JJ)J" } : Jvm.MethodName) jdk_29_method_66_code (4 : Nat) (Option.some Jvm.ClassFile.FieldType.long), Jvm.Cond.code ({ cls := "com/example/headwater/headwater/headdriven/EventCountsMostExceptPinLaw", name := "tot", desc := "(IIIIJJJ)J" } : Jvm.MethodName) method_2_code (12 : Nat) (Option.some Jvm.ClassFile.FieldType.long), Jvm.Cond.code ({ cls := "com/example/headwater/headwater/headdriven/EventCounts", name := "mostExcept", desc := "(II)J" } : Jvm.MethodName) prog_34_method_13_code (5 : Nat) (Option.some Jvm.ClassFile.FieldType.long)]
set_option maxRecDepth 65536 in
theorem codes_eq : words1.filter isCode = codes1 := rfl
theorem w_codes : ∀ c ∈ words1.filter isCode, c.before args0 about1 = true := by
  rw [codes_eq]
  intro c hc
  simp only [codes1, List.mem_cons, List.not_mem_nil, or_false] at hc
  rcases hc with rfl | rfl | rfl | rfl | rfl | rfl | rfl | rfl | rfl | rfl | rfl | rfl | rfl | rfl | rfl | rfl | rfl | rfl | rfl | rfl
  · exact w_c0
  · exact w_c1
  · exact w_c2
  · exact w_c3
  · exact w_c4
  · exact w_c5
  · exact w_c6
  · exact w_c7
  · exact w_c8
  · exact w_c9
  · exact w_c10
  · exact w_c11
  · exact w_c12
  · exact w_c13
  · exact w_c14
  · exact w_c15
  · exact w_c16
  · exact w_c17
  · exact w_c18
  · exact w_c19
set_option maxRecDepth 65536 in
theorem w_t1 : (words1.take 24).all (fun c => isCode c || c.before args0 about1) = true := by decide +kernel
set_option maxRecDepth 65536 in
theorem w_t2 : ((words1.drop 24).take 24).all (fun c => isCode c || c.before args0 about1) = true := by decide +kernel
set_option maxRecDepth 65536 in
theorem w_t3 : (((words1.drop 24).drop 24).take 24).all (fun c => isCode c || c.before args0 about1) = true := by decide +kernel
set_option maxRecDepth 65536 in
theorem w_t4 : ((((words1.drop 24).drop 24).drop 24).take 24).all (fun c => isCode c || c.before args0 about1) = true := by decide +kernel
set_option maxRecDepth 65536 in
theorem w_t5 : ((((words1.drop 24).drop 24).drop 24).drop 24).all (fun c => isCode c || c.before args0 about1) = true := by decide +kernel
theorem w_tables : (allAtoms (Jvm.Cond.code x code maxLocals ret :: tables_1)).before args0 about1 = true := by
  rw [allAtoms_all]
  show words1.all (fun c => c.before args0 about1) = true
  refine all_split ?_ w_codes
  rw [← List.take_append_drop 24 words1, List.all_append, w_t1, ← List.take_append_drop 24 (words1.drop 24), List.all_append, w_t2, ← List.take_append_drop 24 ((words1.drop 24).drop 24), List.all_append, w_t3, ← List.take_append_drop 24 (((words1.drop 24).drop 24).drop 24), List.all_append, w_t4, w_t5]
  rfl
set_option maxRecDepth 65536 in
theorem w_case : (Jvm.Cond.and given_1 narrow_1).before args0 about1 = true := by decide +kernel
theorem w_applies : (headSpec (Jvm.Cond.code x code maxLocals ret :: tables_1) room_1).applies x e0.platform about1 = true :=
  (Spec.applies_iff w_frames).mpr ⟨w_running, w_runnable, w_alone, w_named, w_hears, w_ripe, w_room, w_tables⟩
theorem atStart : AtStart classFile x code maxLocals ret World_1 tables_1 room_1 Calls_1 rest_1 Pre_1 launch0 p0 e0 about1 theMethod args0 below0 :=
  ⟨lists_1, trivial, launch0.admits_env _ _ _, launch0.least_env, fairChoices_fair.cas, fairChoices_fair.clock, w_frames, w_args, w_heap, w_applies, trivial, trivial, w_case⟩
end start1
theorem witness_1 : WitnessClaimed_1 := ⟨start1.p0, start1.e0, start1.about1, start1.theMethod, start1.args0, start1.below0, start1.atStart⟩
end Jvm.Pilot.@@N@@
