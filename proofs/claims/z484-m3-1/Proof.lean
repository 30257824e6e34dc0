import JvmDerived
import JvmDerived.Pilot.@@N@@Statement
import JvmDerived.Pilot.@@N@@Code
set_option linter.unusedVariables false
set_option linter.unusedSimpArgs false

namespace Jvm.RoadKit
open Sem ClassFile Op Lib Jvm.Stand Jvm.Free Jvm.LawKit
section New
variable {p : Program} {l : Launch} {e : Env} {R : Room} {s : State} {m : MethodId} {args : Array Value} {below : List Frame} {meth : Method} {c : Code} {T : State} {locs : List Loc} {cells slots : Nat}
theorem retI (X : Stand p l e R s m args below meth c T locs cells slots) (hx : p.tables.exec = Jvm.exec) {pc : Nat} {Ls : Array Slot} {z : Int32} {rest : List Value} (hret : meth.sig.returnType = some .int) (hd : decode c.code pc = .ok (.ireturn, 1)) {fs : List Frame}
    (hl : ∀ (f : JFrame) (acts : List Action), f.method = m → f.locked = none → f.entered = [] → (doReturn e (T.setTop f) acts (some (.int z))).1 = T.setFrames fs) : Steps p.tables e below (T.setTop (mkF m pc Ls (.int z :: rest))) (T.setFrames fs) := by
  exact retOut X hx hret rfl (Or.inl ⟨rfl, Or.inl rfl, _, rfl⟩) hd hl
end New
end Jvm.RoadKit

namespace Jvm.Pilot.@@N@@
open Jvm Jvm.ClassFile Sem Op Lib Jvm.Free Jvm.Stand Jvm.LawKit Jvm.RoadKit Bundle Jvm.Pilot.@@N@@.Jvm.D

/-! arrays by a function of the place: what each place holds -/
def oUpd (f : Nat → Value) (k : Nat) (v : Value) : Nat → Value := fun i => if i = k then v else f i
def OArr (Z : State) (h : Heap) (a : Addr) (ty : FieldType) (n : Nat) (f : Nat → Value) : Prop := ∃ c : Cell, Arr Z h a c ty ∧ c.slots.size = n ∧ ∀ i, i < n → c.slots[i]? = some (f i)
section OArrFacts
variable {Z : State} {h h' : Heap} {a b : Addr} {ty : FieldType} {n : Nat} {f : Nat → Value} {sl : Nat} {v : Value} {ws : List Addr}
theorem oUpd_same (f : Nat → Value) (k : Nat) (v : Value) : oUpd f k v k = v := if_pos rfl
theorem oUpd_ne {f : Nat → Value} {k i : Nat} {v : Value} (h : i ≠ k) : oUpd f k v i = f i := if_neg h
theorem OArr.lt (F : OArr Z h a ty n f) : a < h.size := by obtain ⟨c, A, -⟩ := F; exact A.lt
theorem OArr.ext (F : OArr Z h a ty n f) (E : Ext h h') : OArr Z h' a ty n f := by obtain ⟨c, A, r⟩ := F; exact ⟨c, A.ext E, r⟩
theorem OArr.other (F : OArr Z h b ty n f) (W : Wr h h' a sl v) (q : b ≠ a) : OArr Z h' b ty n f := by obtain ⟨c, A, r⟩ := F; exact ⟨c, A.other W q, r⟩
theorem OArr.keep (F : OArr Z h a ty n f) (K : Keep h h' ws) (q : a ∉ ws) : OArr Z h' a ty n f := by obtain ⟨c, A, r⟩ := F; exact ⟨c, ⟨K.2.1 a c A.1 q, A.2⟩, r⟩
theorem OArr.congr {f' : Nat → Value} (F : OArr Z h a ty n f) (q : ∀ i, i < n → f i = f' i) : OArr Z h a ty n f' := by obtain ⟨c, A, S, H⟩ := F; exact ⟨c, A, S, fun i hi => by rw [← q i hi]; exact H i hi⟩
theorem OArr.set (F : OArr Z h a ty n f) {k : Nat} (hk : k < n) (W : Wr h h' a k v) : OArr Z h' a ty n (oUpd f k v) := by
  obtain ⟨c, A, S, H⟩ := F
  refine ⟨_, A.same W, by rw [sz_set]; exact S, fun i hi => ?_⟩
  by_cases q : i = k
  · subst q; rw [oUpd_same]; simp [Cell.setSlot, S, hi]
  · rw [oUpd_ne q]; show (c.slots.setIfInBounds k v)[i]? = _
    rw [Array.getElem?_setIfInBounds_ne (Ne.symm q)]; exact H i hi
theorem o_idx {j : Int32} {k : Nat} (h : j.toInt = (k : Int)) : ¬ j < 0 ∧ j.toNatClampNeg = k := by
  refine ⟨?_, ?_⟩
  · rw [Int32.lt_iff_toInt_lt]; show ¬ j.toInt < 0; omega
  · simp only [Int32.toNatClampNeg]; omega
theorem o_in {cl : Cell} {j : Int32} {k n : Nat} (S : cl.slots.size = n) (h : j.toInt = (k : Int)) (hk : k < n) : ¬ (j < 0 ∨ cl.slots.size ≤ j.toNatClampNeg) := by
  obtain ⟨q1, q2⟩ := o_idx h
  rw [S, q2]; intro z; rcases z with z | z
  · exact q1 z
  · omega
end OArrFacts
section OArrLaws
variable {p : Program} {l : Launch} {e : Env} {R : Room} {s : State} {m : MethodId} {args : Array Value} {below : List Frame} {meth : Method} {c : Code} {T : State} {locs : List Loc} {cells slots : Nat} {Z : State} {h : Heap} {a : Addr} {n : Nat} {f : Nat → Value} {a0 : Array Value}
theorem oStI (X : Stand p l e R s m args below meth c T locs cells slots) (hx : p.tables.exec = Jvm.exec) (hZ : Z.Warmed39 s.vm) (eT : T.heap = h) (A : OArr Z h a .int n f) {j x : Int32} {k : Nat} (hj : j.toInt = (k : Int)) (hk : k < n) {g : JFrame} (hg : g.method = m) {rest : List Value} (hs : g.stack = .int x :: .int j :: .ref a :: rest) (hd : decode c.code g.pc = .ok (.iastore, 1)) :
    ∃ T' h', Stand p l e R s m args below meth c T' (locs ++ [⟨a, k⟩]) cells slots ∧ T'.heap = h' ∧ Wr h h' a k (.int x) ∧ OArr Z h' a .int n (oUpd f k (.int x)) ∧ ∀ target, Steps p.tables e below (T'.setTop { g with pc := g.pc + 1, stack := rest }) target → Steps p.tables e below (T.setTop g) target := by
  obtain ⟨cl, Ar, S, H⟩ := A
  obtain ⟨T', h', X', e', W', st⟩ := stI X hx hZ eT Ar (o_in S hj hk) hg hs hd
  rw [(o_idx hj).2] at X' W'
  exact ⟨T', h', X', e', W', OArr.set ⟨cl, Ar, S, H⟩ hk W', st⟩
theorem oStJ (X : Stand p l e R s m args below meth c T locs cells slots) (hx : p.tables.exec = Jvm.exec) (hZ : Z.Warmed39 s.vm) (eT : T.heap = h) (A : OArr Z h a .long n f) {j : Int32} {x : Int64} {k : Nat} (hj : j.toInt = (k : Int)) (hk : k < n) {g : JFrame} (hg : g.method = m) {rest : List Value} (hs : g.stack = .long x :: .int j :: .ref a :: rest) (hd : decode c.code g.pc = .ok (.lastore, 1)) :
    ∃ T' h', Stand p l e R s m args below meth c T' (locs ++ [⟨a, k⟩]) cells slots ∧ T'.heap = h' ∧ Wr h h' a k (.long x) ∧ OArr Z h' a .long n (oUpd f k (.long x)) ∧ ∀ target, Steps p.tables e below (T'.setTop { g with pc := g.pc + 1, stack := rest }) target → Steps p.tables e below (T.setTop g) target := by
  obtain ⟨cl, Ar, S, H⟩ := A
  obtain ⟨T', h', X', e', W', st⟩ := stJ X hx hZ eT Ar (o_in S hj hk) hg hs hd
  rw [(o_idx hj).2] at X' W'
  exact ⟨T', h', X', e', W', OArr.set ⟨cl, Ar, S, H⟩ hk W', st⟩
theorem oStZ (X : Stand p l e R s m args below meth c T locs cells slots) (hx : p.tables.exec = Jvm.exec) (hZ : Z.Warmed39 s.vm) (eT : T.heap = h) (A : OArr Z h a .boolean n f) {j x : Int32} {k : Nat} (hj : j.toInt = (k : Int)) (hk : k < n) {g : JFrame} (hg : g.method = m) {rest : List Value} (hs : g.stack = .int x :: .int j :: .ref a :: rest) (hd : decode c.code g.pc = .ok (.bastore, 1)) :
    ∃ T' h', Stand p l e R s m args below meth c T' (locs ++ [⟨a, k⟩]) cells slots ∧ T'.heap = h' ∧ Wr h h' a k (.int (x &&& 1)) ∧ OArr Z h' a .boolean n (oUpd f k (.int (x &&& 1))) ∧ ∀ target, Steps p.tables e below (T'.setTop { g with pc := g.pc + 1, stack := rest }) target → Steps p.tables e below (T.setTop g) target := by
  obtain ⟨cl, Ar, S, H⟩ := A
  obtain ⟨T', h', X', e', W', st⟩ := stZ X hx hZ eT Ar (o_in S hj hk) hg hs hd
  rw [(o_idx hj).2] at X' W'
  exact ⟨T', h', X', e', W', OArr.set ⟨cl, Ar, S, H⟩ hk W', st⟩
theorem oLdI (X : Stand p l e R s m args below meth c T locs cells slots) (hx : p.tables.exec = Jvm.exec) (hZ : Z.Warmed39 s.vm) (eT : T.heap = h) (A : OArr Z h a .int n f) {j : Int32} {k : Nat} (hj : j.toInt = (k : Int)) (hk : k < n) {v : Int32} (hv : f k = .int v) {g : JFrame} (hg : g.method = m) {rest : List Value} (hs : g.stack = .int j :: .ref a :: rest) (hd : decode c.code g.pc = .ok (.iaload, 1)) :
    ∀ target, Steps p.tables e below (T.setTop { g with pc := g.pc + 1, stack := .int v :: rest }) target → Steps p.tables e below (T.setTop g) target := by
  obtain ⟨cl, Ar, S, H⟩ := A
  have ha := H k hk
  rw [hv] at ha
  exact X.iaload hx (j := j) (v := .int v) (by rw [eT]; exact Ar.1) (State.isArrayOf_alike hZ.alike Ar.2.1) Ar.2.2 (o_in S hj hk) (by rw [(o_idx hj).2]; exact ha) hg hs hd
theorem oLdJ (X : Stand p l e R s m args below meth c T locs cells slots) (hx : p.tables.exec = Jvm.exec) (hZ : Z.Warmed39 s.vm) (eT : T.heap = h) (A : OArr Z h a .long n f) {j : Int32} {k : Nat} (hj : j.toInt = (k : Int)) (hk : k < n) {v : Int64} (hv : f k = .long v) {g : JFrame} (hg : g.method = m) {rest : List Value} (hs : g.stack = .int j :: .ref a :: rest) (hd : decode c.code g.pc = .ok (.laload, 1)) :
    ∀ target, Steps p.tables e below (T.setTop { g with pc := g.pc + 1, stack := .long v :: rest }) target → Steps p.tables e below (T.setTop g) target := by
  obtain ⟨cl, Ar, S, H⟩ := A
  have ha := H k hk
  rw [hv] at ha
  exact X.laload hx (j := j) (v := .long v) (by rw [eT]; exact Ar.1) (State.isArrayOf_alike hZ.alike Ar.2.1) Ar.2.2 (o_in S hj hk) (by rw [(o_idx hj).2]; exact ha) hg hs hd
theorem oLdZ (X : Stand p l e R s m args below meth c T locs cells slots) (hx : p.tables.exec = Jvm.exec) (hZ : Z.Warmed39 s.vm) (eT : T.heap = h) (A : OArr Z h a .boolean n f) {j : Int32} {k : Nat} (hj : j.toInt = (k : Int)) (hk : k < n) {v : Int32} (hv : f k = .int v) {g : JFrame} (hg : g.method = m) {rest : List Value} (hs : g.stack = .int j :: .ref a :: rest) (hd : decode c.code g.pc = .ok (.baload, 1)) :
    ∀ target, Steps p.tables e below (T.setTop { g with pc := g.pc + 1, stack := .int v :: rest }) target → Steps p.tables e below (T.setTop g) target := by
  obtain ⟨cl, Ar, S, H⟩ := A
  have ha := H k hk
  rw [hv] at ha
  exact X.baloadBooleans hx (j := j) (v := .int v) (by rw [eT]; exact Ar.1) (State.isArrayOf_alike hZ.alike Ar.2.1) Ar.2.2 (o_in S hj hk) (by rw [(o_idx hj).2]; exact ha) hg hs hd
theorem oLdB (X : Stand p l e R s m args below meth c T locs cells slots) (hx : p.tables.exec = Jvm.exec) (hZ : Z.Warmed39 s.vm) (eT : T.heap = h) (A : OArr Z h a .byte n f) {j : Int32} {k : Nat} (hj : j.toInt = (k : Int)) (hk : k < n) {v : Int32} (hv : f k = .int v) {g : JFrame} (hg : g.method = m) {rest : List Value} (hs : g.stack = .int j :: .ref a :: rest) (hd : decode c.code g.pc = .ok (.baload, 1)) :
    ∀ target, Steps p.tables e below (T.setTop { g with pc := g.pc + 1, stack := .int v :: rest }) target → Steps p.tables e below (T.setTop g) target := by
  obtain ⟨cl, Ar, S, H⟩ := A
  have ha := H k hk
  rw [hv] at ha
  exact X.baloadBytes hx (j := j) (v := .int v) (by rw [eT]; exact Ar.1) (State.isArrayOf_alike hZ.alike Ar.2.1) Ar.2.2 (o_in S hj hk) (by rw [(o_idx hj).2]; exact ha) hg hs hd
theorem oLen {ty : FieldType} (X : Stand p l e R s m args below meth c T locs cells slots) (hx : p.tables.exec = Jvm.exec) (hZ : Z.Warmed39 s.vm) (eT : T.heap = h) (A : OArr Z h a ty n f) {N : Int32} (hN : N.toInt = (n : Int)) {g : JFrame} (hg : g.method = m) {rest : List Value} (hs : g.stack = .ref a :: rest) (hd : decode c.code g.pc = .ok (.arraylength, 1)) :
    ∀ target, Steps p.tables e below (T.setTop { g with pc := g.pc + 1, stack := .int N :: rest }) target → Steps p.tables e below (T.setTop g) target := by
  obtain ⟨cl, Ar, S, H⟩ := A
  have q := X.arraylength hx (by rw [eT]; exact Ar.1) (State.isArrayOf_alike hZ.alike Ar.2.1) hg hs hd
  have e1 : cl.slots.size.toInt32 = N := len_of (by rw [S]; exact (o_idx hN).2.symm) (o_idx hN).1
  rw [e1] at q
  exact q
theorem oNew (X : Stand p l e R s m args below meth c T locs cells slots) (hx : p.tables.exec = Jvm.exec) (hZ : Z.Warmed39 s.vm) {aty : ArrayType} (w : (Cond.arrayClass (newarray.typeOf aty)).before a0 Z = true) (eT : T.heap = h) {g : JFrame} (hg : g.method = m) (hd : decode c.code g.pc = .ok (.newarray aty, 2)) {z : Int32} {rest : List Value} (hs : g.stack = .int z :: rest)
    {k cap : Nat} (hn : z.toInt = (k : Int)) (hcap : k ≤ cap) (hb : cap * 8 ≤ 536870912) (hc : cells + 1 ≤ R.cells) (hl : slots + cap ≤ R.slots) :
    ∃ T' h', Stand p l e R s m args below meth c T' locs (cells + 1) (slots + cap) ∧ T'.heap = h' ∧ Ext h h' ∧ OArr Z h' h.size (newarray.typeOf aty) k (fun _ => defaultValue (newarray.typeOf aty)) ∧
      ∀ target, Steps p.tables e below (T'.setTop { g with pc := g.pc + 2, stack := .ref h.size :: rest }) target → Steps p.tables e below (T.setTop g) target := by
  obtain ⟨q1, q2⟩ := o_idx hn
  obtain ⟨T', h', cA, X', e', E', A', st⟩ := newP X hx hZ w eT hg hd hs q1 (cap := cap) (by rw [q2]; exact hcap) hb hc hl
  refine ⟨T', h', X', e', E', ⟨_, A', by rw [sz_new, q2], fun i hi => ?_⟩, st⟩
  simp [newA, q2, hi]
end OArrLaws

theorem own_stakeep {Z : State} {h h' : Heap} {C n d K : String} {v : Value} {a : Addr} (F : Sta Z h C n d v) (Kp : Keep h h' [a]) (E : Exa Z h a K) : Sta Z h' C n d v := by
  obtain ⟨cf, i, k, f, st, cell, h1, h2, h3, h4, h5, h6, h7⟩ := F
  refine ⟨cf, i, k, f, st, cell, h1, h2, h3, h4, Kp.2.1 st cell h5 ?_, h6, h7⟩
  intro q
  obtain rfl : st = a := List.mem_singleton.mp q
  obtain ⟨c2, k2, e1, -, -, e4, -⟩ := E
  cases h5.symm.trans e1
  rw [h6] at e4; cases e4
theorem own_one (x : Int32) : (x &&& (1 : Int32)) = (0 : Int32) ∨ (x &&& (1 : Int32)) = (1 : Int32) := by
  have e : (x &&& (1 : Int32)).toBitVec.toNat = x.toBitVec.toNat % 2 := by
    rw [Int32.toBitVec_and, BitVec.toNat_and]; exact Nat.and_two_pow_sub_one_eq_mod x.toBitVec.toNat 1
  rcases Nat.mod_two_eq_zero_or_one x.toBitVec.toNat with q | q
  · left; apply Int32.toBitVec_inj.mp; apply BitVec.eq_of_toNat_eq; rw [e, q]; rfl
  · right; apply Int32.toBitVec_inj.mp; apply BitVec.eq_of_toNat_eq; rw [e, q]; rfl
theorem own_three (x : Int32) : ∃ k : Nat, k ≤ 3 ∧ (x &&& (3 : Int32)).toInt = (k : Int) := by
  have e : (x &&& (3 : Int32)).toBitVec.toNat = x.toBitVec.toNat % 4 := by
    rw [Int32.toBitVec_and, BitVec.toNat_and]; exact Nat.and_two_pow_sub_one_eq_mod x.toBitVec.toNat 2
  refine ⟨x.toBitVec.toNat % 4, by omega, ?_⟩
  show (x &&& (3 : Int32)).toBitVec.toInt = _
  rw [BitVec.toInt_eq_toNat_cond, e]; split <;> omega
theorem own_two {x : Int32} {k : Nat} (h : x.toInt = (k : Int)) (hk : k ≤ 3) : (x * (2 : Int32)).toInt = ((2 * k : Nat) : Int) := by
  rw [Int32.toInt_mul, h, show (2 : Int32).toInt = 2 from rfl, Int.bmod_def]; omega

theorem dU1_0 : decode jdk_22_method_1_code 0 = .ok (.aload_n 0, 1) := by decide +kernel
theorem dU1_1 : decode jdk_22_method_1_code 1 = .ok (.invokespecial 1, 3) := by decide +kernel
theorem dU1_4 : decode jdk_22_method_1_code 4 = .ok (.return_, 1) := by decide +kernel
theorem pnU1 : plainName "java/util/AbstractCollection" = true := by first | (simp [plainName, overriddenIn]; done) | decide +kernel
theorem efU1 (m : MethodId) (a1 : Addr) : entryFrame m #[(.ref a1)] 1 = mkF m 0 #[.val (.ref a1)] [] := by first | (simp [entryFrame, mkF, argsToLocals, Value.category]; done) | rfl
def QU1 (Z : State) (a1 : Addr) (h0 : Heap) (n0 : Nat) (v : Option Value) (h : Heap) (L : List Loc) : Prop := v = none ∧ Fr n0 L ∧ h = h0
set_option maxRecDepth 65536 in
set_option maxHeartbeats 40000000 in
theorem rmU1 (l : Launch) (Z : State) (a0 : Array Value) (hw : ∀ d ∈ tables_1, d.before a0 Z = true) (ws : List Jvm.Cond) (a1 : Addr) (h0 : Heap) (n0 : Nat) (Z0 : n0 ≤ h0.size) :
    MetFree l (⟨"java/util/AbstractCollection", "<init>", "()V"⟩ : MethodName) (head1 (Jvm.Cond.code (⟨"java/util/AbstractCollection", "<init>", "()V"⟩ : MethodName) jdk_22_method_1_code 1 none :: ws) ({ frames := 1, cells := 0, slots := 0, locals := 12 } : Room)) (fun a U => a = #[(.ref a1)] ∧ Z.Warmed39 U.vm ∧ U.heap = h0) (fun _ _ _ _ _ => True) (fun _ U o U' => ∃ v L, o = .returned v ∧ QU1 Z a1 h0 n0 v U'.heap L ∧ FrameEnd U o U' L ({ frames := 1, cells := 0, slots := 0, locals := 12 } : Room).cells ({ frames := 1, cells := 0, slots := 0, locals := 12 } : Room).slots) := by
  refine MetFree.of_bodySF (plainFor_of_name pnU1) hisR ?_
  intro p e s m args below meth c s₁ Bd hml0 hP hK
  obtain ⟨rfl, hZ, hh⟩ := hP
  have hx := Bd.exec
  have hby := Bd.bytes
  have hml : c.maxLocals = 1 := hml0
  have hown : s.vm.findClass "java/util/AbstractCollection" = some m.cls := findClass_of_methodNamed Bd.named
  have hnm := (name_of_methodNamed Bd.named Bd.method).1
  have X0 : Stand p l e ({ frames := 1, cells := 0, slots := 0, locals := 12 } : Room) s m #[(.ref a1)] below meth c s₁ [] 0 0 := Stand.of_body Bd
  have e0 : s₁.heap = h0 := by rw [← hh, Bd.state]; rfl
  have N0 := Fr.nil n0
  have pre0 : ∀ t, Steps p.tables e below (s₁.setTop (mkF m 0 #[.val (.ref a1)] [])) t → Steps p.tables e below (s₁.setTop (entryFrame m #[(.ref a1)] 1)) t := fun t k => castTop (efU1 m a1) k
  obtain ⟨T1, X1, e1, st1⟩ := initO X0 hx hZ hown (hw _ (List.mem_of_getElem? (i := 30) rfl)) (hw _ (List.mem_of_getElem? (i := 10) rfl)) (hw _ (List.mem_of_getElem? (i := 11) rfl)) e0 (g := (mkF m 1 #[.val (.ref a1)] [(.ref a1)])) rfl (by rw [hml]; rfl) rfl (hb hby dU1_1) (by decide) (W := 0) (by show 2 * 0 + _ ≤ _; exact Nat.le_of_eq rfl) (by decide)
  have pre2 : ∀ t, Steps p.tables e below (T1.setTop (mkF m 4 #[.val (.ref a1)] [])) t → Steps p.tables e below (s₁.setTop (entryFrame m #[(.ref a1)] 1)) t := fun t_ k_ => pre0 t_ (by
      refine XS.aloadN X0.here hx rfl (hb hby dU1_0) rfl rfl ?_
      show Steps p.tables e below (s₁.setTop (mkF m 1 #[.val (.ref a1)] [(.ref a1)])) _
      refine st1 _ ?_
      show Steps p.tables e below (T1.setTop (mkF m 4 #[.val (.ref a1)] [])) _
      exact k_)
  obtain ⟨fs, hr, hrun, hended, hW, hsame⟩ := X1.leave (v := none) (fun _ => rfl)
  refine ⟨_, _, pre2 _ ?_, hrun, hended, _, _, rfl, ?_, ⟨_, rfl⟩, hW, hsame.mono (by decide) (by decide)⟩
  · exact X1.returnOut hx Bd.returns (hb hby dU1_4) hr
  · show QU1 Z a1 h0 n0 _ T1.heap _
    rw [e1]
    exact ⟨rfl, N0, rfl⟩
theorem dU2_0 : decode jdk_39_method_1_code 0 = .ok (.aload_n 0, 1) := by decide +kernel
theorem dU2_1 : decode jdk_39_method_1_code 1 = .ok (.invokespecial 1, 3) := by decide +kernel
theorem dU2_4 : decode jdk_39_method_1_code 4 = .ok (.aload_n 0, 1) := by decide +kernel
theorem dU2_5 : decode jdk_39_method_1_code 5 = .ok (.iconst 0, 1) := by decide +kernel
theorem dU2_6 : decode jdk_39_method_1_code 6 = .ok (.putfield 7, 3) := by decide +kernel
theorem dU2_9 : decode jdk_39_method_1_code 9 = .ok (.return_, 1) := by decide +kernel
theorem pdU2_0 : parseMethodDescriptor "()V" = some ⟨[], none⟩ := by decide +kernel
theorem pnU2 : plainName "java/util/AbstractList" = true := by first | (simp [plainName, overriddenIn]; done) | decide +kernel
theorem efU2 (m : MethodId) (a1 : Addr) : entryFrame m #[(.ref a1)] 1 = mkF m 0 #[.val (.ref a1)] [] := by first | (simp [entryFrame, mkF, argsToLocals, Value.category]; done) | rfl
def QU2 (Z : State) (a1 : Addr) (h0 : Heap) (n0 : Nat) (v : Option Value) (h : Heap) (L : List Loc) : Prop := v = none ∧ Fr n0 L ∧ Keep h0 h [a1] ∧ Fld Z h a1 "java/util/ArrayList" "elementData" "[Ljava/lang/Object;" .null
set_option maxRecDepth 65536 in
set_option maxHeartbeats 40000000 in
theorem rmU2 (l : Launch) (Z : State) (a0 : Array Value) (hw : ∀ d ∈ tables_1, d.before a0 Z = true) (ws : List Jvm.Cond) (a1 : Addr) (h0 : Heap) (n0 : Nat) (Z0 : n0 ≤ h0.size) (E1 : Exa Z h0 a1 "java/util/ArrayList") (F1 : Fld Z h0 a1 "java/util/AbstractList" "modCount" "I" (.int (0 : Int32))) (F2 : Fld Z h0 a1 "java/util/ArrayList" "elementData" "[Ljava/lang/Object;" .null) (g1 : n0 ≤ a1) :
    MetFree l (⟨"java/util/AbstractList", "<init>", "()V"⟩ : MethodName) (head1 (Jvm.Cond.code (⟨"java/util/AbstractList", "<init>", "()V"⟩ : MethodName) jdk_39_method_1_code 1 none :: ws) ({ frames := 2, cells := 0, slots := 0, locals := 24 } : Room)) (fun a U => a = #[(.ref a1)] ∧ Z.Warmed39 U.vm ∧ U.heap = h0) (fun _ _ _ _ _ => True) (fun _ U o U' => ∃ v L, o = .returned v ∧ QU2 Z a1 h0 n0 v U'.heap L ∧ FrameEnd U o U' L ({ frames := 2, cells := 0, slots := 0, locals := 24 } : Room).cells ({ frames := 2, cells := 0, slots := 0, locals := 24 } : Room).slots) := by
  refine MetFree.of_bodySF (plainFor_of_name pnU2) hisR ?_
  intro p e s m args below meth c s₁ Bd hml0 hP hK
  obtain ⟨rfl, hZ, hh⟩ := hP
  have hx := Bd.exec
  have hby := Bd.bytes
  have hml : c.maxLocals = 1 := hml0
  have hown : s.vm.findClass "java/util/AbstractList" = some m.cls := findClass_of_methodNamed Bd.named
  have hnm := (name_of_methodNamed Bd.named Bd.method).1
  have X0 : Stand p l e ({ frames := 2, cells := 0, slots := 0, locals := 24 } : Room) s m #[(.ref a1)] below meth c s₁ [] 0 0 := Stand.of_body Bd
  have e0 : s₁.heap = h0 := by rw [← hh, Bd.state]; rfl
  have N0 := Fr.nil n0
  have pre0 : ∀ t, Steps p.tables e below (s₁.setTop (mkF m 0 #[.val (.ref a1)] [])) t → Steps p.tables e below (s₁.setTop (entryFrame m #[(.ref a1)] 1)) t := fun t k => castTop (efU2 m a1) k
  obtain ⟨_, _, ⟨T1, L1, k1, n1⟩, -, X1, ⟨Lc1, hQ1, l1, y1, z1⟩, st1⟩ := X0.specialBack hx (y := (⟨"java/util/AbstractCollection", "<init>", "()V"⟩ : MethodName)) rfl hown (mvT hZ (hw _ (List.mem_of_getElem? (i := 24) rfl))) (mvT hZ (hw _ (List.mem_of_getElem? (i := 25) rfl))) (mvT hZ (hw _ (List.mem_of_getElem? (i := 29) rfl))) (by decide) (backOf (W := 0) (rmU1 l Z a0 hw [] a1  h0 n0 Z0) hZ (hw _ (List.mem_of_getElem? (i := 29) rfl)) (hw _ (List.mem_of_getElem? (i := 28) rfl)) (by decide) (by decide)) (g := (mkF m 1 #[.val (.ref a1)] [(.ref a1)])) rfl (by rw [hml]; rfl) (Steps.refl _) (a := a1) (argsL := []) (rest := []) (lenOf pdU2_0 rfl) rfl (by show 2 * 0 + _ ≤ _; exact Nat.le_of_eq rfl) (hb hby dU2_1) (fun _ _ => ⟨rfl, e0, (by decide : 0 + 0 ≤ _), (by decide : 0 + 0 ≤ _)⟩)
  dsimp only [Pt.U, Pt.locs, Pt.cells, Pt.slots] at X1 l1 y1 z1 st1 hQ1
  subst l1 y1 z1
  obtain ⟨rfl, N1q, e1⟩ := hQ1
  have N1 := Fr.app N0 N1q
  obtain ⟨T2, h2, X2, e2, W2, st2⟩ := putF X1 hx hZ hown (host := "") (Or.inl (hw _ (List.mem_of_getElem? (i := 31) rfl))) Via.refl e1 F1 E1 (Or.inl (hw _ (List.mem_of_getElem? (i := 32) rfl))) (hw _ (List.mem_of_getElem? (i := 13) rfl)) (ty := .int) (by decide) rfl rfl (g := (mkF m 6 #[.val (.ref a1)] [(.int (0 : Int32)), (.ref a1)])) rfl rfl (hb hby dU2_6)
  have Fw2 := F1.same W2
  have f3 := E1.wr W2
  have f4 := F2.other W2 (Or.inr (slot_ne (Or.inl (hw _ (List.mem_of_getElem? (i := 35) rfl))) (Or.inl (hw _ (List.mem_of_getElem? (i := 32) rfl))) (by decide) (t := (.array (.object "java/lang/Object"))) (t' := .int) (by decide) (by decide)))
  have N2 := Fr.snoc X2 N1 g1
  have K2 := (Keep.refl h0 [a1]).wr W2 (Or.inl (List.mem_of_getElem? (i := 0) rfl))
  have Z2 : n0 ≤ h2.size := Nat.le_trans Z0 (Keep.of_wr W2).1
  have pre5 : ∀ t, Steps p.tables e below (T2.setTop (mkF m 9 #[.val (.ref a1)] [])) t → Steps p.tables e below (s₁.setTop (entryFrame m #[(.ref a1)] 1)) t := fun t_ k_ => pre0 t_ (by
      refine XS.aloadN X0.here hx rfl (hb hby dU2_0) rfl rfl ?_
      show Steps p.tables e below (s₁.setTop (mkF m 1 #[.val (.ref a1)] [(.ref a1)])) _
      refine st1.trans ?_
      show Steps p.tables e below (T1.setTop (mkF m 4 #[.val (.ref a1)] [])) _
      refine XS.aloadN X1.here hx rfl (hb hby dU2_4) rfl rfl ?_
      show Steps p.tables e below (T1.setTop (mkF m 5 #[.val (.ref a1)] [(.ref a1)])) _
      refine XS.iconst X1.here hx rfl (hb hby dU2_5) ?_
      show Steps p.tables e below (T1.setTop (mkF m 6 #[.val (.ref a1)] [(.int (0 : Int32)), (.ref a1)])) _
      refine st2 _ ?_
      show Steps p.tables e below (T2.setTop (mkF m 9 #[.val (.ref a1)] [])) _
      exact k_)
  obtain ⟨fs, hr, hrun, hended, hW, hsame⟩ := X2.leave (v := none) (fun _ => rfl)
  refine ⟨_, _, pre5 _ ?_, hrun, hended, _, _, rfl, ?_, ⟨_, rfl⟩, hW, hsame.mono (by decide) (by decide)⟩
  · exact X2.returnOut hx Bd.returns (hb hby dU2_9) hr
  · show QU2 Z a1 h0 n0 _ T2.heap _
    rw [e2]
    exact ⟨rfl, N2, K2, f4⟩
theorem dU3_0 : decode jdk_38_method_2_code 0 = .ok (.aload_n 0, 1) := by decide +kernel
theorem dU3_1 : decode jdk_38_method_2_code 1 = .ok (.invokespecial 1, 3) := by decide +kernel
theorem dU3_4 : decode jdk_38_method_2_code 4 = .ok (.aload_n 0, 1) := by decide +kernel
theorem dU3_5 : decode jdk_38_method_2_code 5 = .ok (.getstatic 39, 3) := by decide +kernel
theorem dU3_8 : decode jdk_38_method_2_code 8 = .ok (.putfield 9, 3) := by decide +kernel
theorem dU3_11 : decode jdk_38_method_2_code 11 = .ok (.return_, 1) := by decide +kernel
theorem pdU3_0 : parseMethodDescriptor "()V" = some ⟨[], none⟩ := by decide +kernel
theorem pnU3 : plainName "java/util/ArrayList" = true := by first | (simp [plainName, overriddenIn]; done) | decide +kernel
theorem efU3 (m : MethodId) (a1 : Addr) : entryFrame m #[(.ref a1)] 1 = mkF m 0 #[.val (.ref a1)] [] := by first | (simp [entryFrame, mkF, argsToLocals, Value.category]; done) | rfl
def QU3 (Z : State) (a1 de : Addr) (h0 : Heap) (n0 : Nat) (v : Option Value) (h : Heap) (L : List Loc) : Prop := v = none ∧ Fr n0 L ∧ Keep h0 h [a1]
set_option maxRecDepth 65536 in
set_option maxHeartbeats 40000000 in
theorem rmU3 (l : Launch) (Z : State) (a0 : Array Value) (hw : ∀ d ∈ tables_1, d.before a0 Z = true) (ws : List Jvm.Cond) (a1 de : Addr) (h0 : Heap) (n0 : Nat) (Z0 : n0 ≤ h0.size) (E1 : Exa Z h0 a1 "java/util/ArrayList") (F1 : Fld Z h0 a1 "java/util/AbstractList" "modCount" "I" (.int (0 : Int32))) (F2 : Fld Z h0 a1 "java/util/ArrayList" "elementData" "[Ljava/lang/Object;" .null) (g1 : n0 ≤ a1) (S0 : Sta Z h0 "java/util/ArrayList" "DEFAULTCAPACITY_EMPTY_ELEMENTDATA" "[Ljava/lang/Object;" (.ref de)) :
    MetFree l (⟨"java/util/ArrayList", "<init>", "()V"⟩ : MethodName) (head1 (Jvm.Cond.code (⟨"java/util/ArrayList", "<init>", "()V"⟩ : MethodName) jdk_38_method_2_code 1 none :: ws) ({ frames := 3, cells := 0, slots := 0, locals := 36 } : Room)) (fun a U => a = #[(.ref a1)] ∧ Z.Warmed39 U.vm ∧ U.heap = h0) (fun _ _ _ _ _ => True) (fun _ U o U' => ∃ v L, o = .returned v ∧ QU3 Z a1 de h0 n0 v U'.heap L ∧ FrameEnd U o U' L ({ frames := 3, cells := 0, slots := 0, locals := 36 } : Room).cells ({ frames := 3, cells := 0, slots := 0, locals := 36 } : Room).slots) := by
  refine MetFree.of_bodySF (plainFor_of_name pnU3) hisR ?_
  intro p e s m args below meth c s₁ Bd hml0 hP hK
  obtain ⟨rfl, hZ, hh⟩ := hP
  have hx := Bd.exec
  have hby := Bd.bytes
  have hml : c.maxLocals = 1 := hml0
  have hown : s.vm.findClass "java/util/ArrayList" = some m.cls := findClass_of_methodNamed Bd.named
  have hnm := (name_of_methodNamed Bd.named Bd.method).1
  have X0 : Stand p l e ({ frames := 3, cells := 0, slots := 0, locals := 36 } : Room) s m #[(.ref a1)] below meth c s₁ [] 0 0 := Stand.of_body Bd
  have e0 : s₁.heap = h0 := by rw [← hh, Bd.state]; rfl
  have N0 := Fr.nil n0
  have pre0 : ∀ t, Steps p.tables e below (s₁.setTop (mkF m 0 #[.val (.ref a1)] [])) t → Steps p.tables e below (s₁.setTop (entryFrame m #[(.ref a1)] 1)) t := fun t k => castTop (efU3 m a1) k
  obtain ⟨_, _, ⟨T1, L1, k1, n1⟩, -, X1, ⟨Lc1, hQ1, l1, y1, z1⟩, st1⟩ := X0.specialBack hx (y := (⟨"java/util/AbstractList", "<init>", "()V"⟩ : MethodName)) rfl hown (mvT hZ (hw _ (List.mem_of_getElem? (i := 18) rfl))) (mvT hZ (hw _ (List.mem_of_getElem? (i := 19) rfl))) (mvT hZ (hw _ (List.mem_of_getElem? (i := 23) rfl))) (by decide) (backOf (W := 0) (rmU2 l Z a0 hw [] a1  h0 n0 Z0 E1 F1 F2 g1) hZ (hw _ (List.mem_of_getElem? (i := 23) rfl)) (hw _ (List.mem_of_getElem? (i := 22) rfl)) (by decide) (by decide)) (g := (mkF m 1 #[.val (.ref a1)] [(.ref a1)])) rfl (by rw [hml]; rfl) (Steps.refl _) (a := a1) (argsL := []) (rest := []) (lenOf pdU3_0 rfl) rfl (by show 2 * 0 + _ ≤ _; exact Nat.le_of_eq rfl) (hb hby dU3_1) (fun _ _ => ⟨rfl, e0, (by decide : 0 + 0 ≤ _), (by decide : 0 + 0 ≤ _)⟩)
  dsimp only [Pt.U, Pt.locs, Pt.cells, Pt.slots] at X1 l1 y1 z1 st1 hQ1
  subst l1 y1 z1
  obtain ⟨rfl, N1q, K1, Fe1⟩ := hQ1
  have N1 := Fr.app N0 N1q
  have f2 := own_stakeep S0 K1 E1
  have f3 := E1.keep K1
  have Z1 : n0 ≤ T1.heap.size := Nat.le_trans Z0 K1.1
  have KK1 := (Keep.refl h0 [a1]).trans K1 (allS (Or.inl (List.mem_of_getElem? (i := 0) rfl)) all0)
  obtain ⟨T4, X4, e4, st4⟩ := getS2 X1 hx hZ hown (host := "") (Or.inl (hw _ (List.mem_of_getElem? (i := 33) rfl))) Via.refl rfl f2 (g := (mkF m 5 #[.val (.ref a1)] [(.ref a1)])) rfl (hb hby dU3_5)
  obtain ⟨T5, h5, X5, e5, W5, st5⟩ := putF X4 hx hZ hown (host := "") (Or.inl (hw _ (List.mem_of_getElem? (i := 34) rfl))) Via.refl e4 Fe1 f3 (Or.inl (hw _ (List.mem_of_getElem? (i := 35) rfl))) (hw _ (List.mem_of_getElem? (i := 13) rfl)) (ty := (.array (.object "java/lang/Object"))) (by decide) rfl rfl (g := (mkF m 8 #[.val (.ref a1)] [(.ref de), (.ref a1)])) rfl rfl (hb hby dU3_8)
  have Fw5 := Fe1.same W5
  have f6 := f2.wr W5
  have f7 := f3.wr W5
  have N5 := Fr.snoc X5 N1 g1
  have K5 := KK1.wr W5 (Or.inl (List.mem_of_getElem? (i := 0) rfl))
  have Z5 : n0 ≤ h5.size := Nat.le_trans Z1 (Keep.of_wr W5).1
  have pre8 : ∀ t, Steps p.tables e below (T5.setTop (mkF m 11 #[.val (.ref a1)] [])) t → Steps p.tables e below (s₁.setTop (entryFrame m #[(.ref a1)] 1)) t := fun t_ k_ => pre0 t_ (by
      refine XS.aloadN X0.here hx rfl (hb hby dU3_0) rfl rfl ?_
      show Steps p.tables e below (s₁.setTop (mkF m 1 #[.val (.ref a1)] [(.ref a1)])) _
      refine st1.trans ?_
      show Steps p.tables e below (T1.setTop (mkF m 4 #[.val (.ref a1)] [])) _
      refine XS.aloadN X1.here hx rfl (hb hby dU3_4) rfl rfl ?_
      show Steps p.tables e below (T1.setTop (mkF m 5 #[.val (.ref a1)] [(.ref a1)])) _
      refine st4 _ ?_
      show Steps p.tables e below (T4.setTop (mkF m 8 #[.val (.ref a1)] [(.ref de), (.ref a1)])) _
      refine st5 _ ?_
      show Steps p.tables e below (T5.setTop (mkF m 11 #[.val (.ref a1)] [])) _
      exact k_)
  obtain ⟨fs, hr, hrun, hended, hW, hsame⟩ := X5.leave (v := none) (fun _ => rfl)
  refine ⟨_, _, pre8 _ ?_, hrun, hended, _, _, rfl, ?_, ⟨_, rfl⟩, hW, hsame.mono (by decide) (by decide)⟩
  · exact X5.returnOut hx Bd.returns (hb hby dU3_11) hr
  · show QU3 Z a1 de h0 n0 _ T5.heap _
    rw [e5]
    exact ⟨rfl, N5, K5⟩
theorem dU4_0 : decode prog_45_method_1_code 0 = .ok (.aload_n 0, 1) := by decide +kernel
theorem dU4_1 : decode prog_45_method_1_code 1 = .ok (.invokespecial 1, 3) := by decide +kernel
theorem dU4_4 : decode prog_45_method_1_code 4 = .ok (.aload_n 0, 1) := by decide +kernel
theorem dU4_5 : decode prog_45_method_1_code 5 = .ok (.new 7, 3) := by decide +kernel
theorem dU4_8 : decode prog_45_method_1_code 8 = .ok (.dup, 1) := by decide +kernel
theorem dU4_9 : decode prog_45_method_1_code 9 = .ok (.invokespecial 9, 3) := by decide +kernel
theorem dU4_12 : decode prog_45_method_1_code 12 = .ok (.putfield 10, 3) := by decide +kernel
theorem dU4_15 : decode prog_45_method_1_code 15 = .ok (.aload_n 0, 1) := by decide +kernel
theorem dU4_16 : decode prog_45_method_1_code 16 = .ok (.bipush 16, 2) := by decide +kernel
theorem dU4_18 : decode prog_45_method_1_code 18 = .ok (.newarray .int, 2) := by decide +kernel
theorem dU4_20 : decode prog_45_method_1_code 20 = .ok (.putfield 16, 3) := by decide +kernel
theorem dU4_23 : decode prog_45_method_1_code 23 = .ok (.aload_n 0, 1) := by decide +kernel
theorem dU4_24 : decode prog_45_method_1_code 24 = .ok (.bipush 16, 2) := by decide +kernel
theorem dU4_26 : decode prog_45_method_1_code 26 = .ok (.newarray .int, 2) := by decide +kernel
theorem dU4_28 : decode prog_45_method_1_code 28 = .ok (.putfield 20, 3) := by decide +kernel
theorem dU4_31 : decode prog_45_method_1_code 31 = .ok (.aload_n 0, 1) := by decide +kernel
theorem dU4_32 : decode prog_45_method_1_code 32 = .ok (.iconst 0, 1) := by decide +kernel
theorem dU4_33 : decode prog_45_method_1_code 33 = .ok (.newarray .int, 2) := by decide +kernel
theorem dU4_35 : decode prog_45_method_1_code 35 = .ok (.putfield 23, 3) := by decide +kernel
theorem dU4_38 : decode prog_45_method_1_code 38 = .ok (.aload_n 0, 1) := by decide +kernel
theorem dU4_39 : decode prog_45_method_1_code 39 = .ok (.iconst 0, 1) := by decide +kernel
theorem dU4_40 : decode prog_45_method_1_code 40 = .ok (.newarray .int, 2) := by decide +kernel
theorem dU4_42 : decode prog_45_method_1_code 42 = .ok (.putfield 26, 3) := by decide +kernel
theorem dU4_45 : decode prog_45_method_1_code 45 = .ok (.aload_n 0, 1) := by decide +kernel
theorem dU4_46 : decode prog_45_method_1_code 46 = .ok (.iconst 0, 1) := by decide +kernel
theorem dU4_47 : decode prog_45_method_1_code 47 = .ok (.newarray .int, 2) := by decide +kernel
theorem dU4_49 : decode prog_45_method_1_code 49 = .ok (.putfield 29, 3) := by decide +kernel
theorem dU4_52 : decode prog_45_method_1_code 52 = .ok (.aload_n 0, 1) := by decide +kernel
theorem dU4_53 : decode prog_45_method_1_code 53 = .ok (.bipush 17, 2) := by decide +kernel
theorem dU4_55 : decode prog_45_method_1_code 55 = .ok (.newarray .int, 2) := by decide +kernel
theorem dU4_57 : decode prog_45_method_1_code 57 = .ok (.putfield 32, 3) := by decide +kernel
theorem dU4_60 : decode prog_45_method_1_code 60 = .ok (.return_, 1) := by decide +kernel
theorem pdU4_0 : parseMethodDescriptor "()V" = some ⟨[], none⟩ := by decide +kernel
theorem pnU4 : plainName "com/example/traceloom/traceloom/discovery/PrefixStates" = true := by first | (simp [plainName, overriddenIn]; done) | decide +kernel
theorem efU4 (m : MethodId) (a1 : Addr) : entryFrame m #[(.ref a1)] 1 = mkF m 0 #[.val (.ref a1)] [] := by first | (simp [entryFrame, mkF, argsToLocals, Value.category]; done) | rfl
def QU4 (Z : State) (a1 de : Addr) (h0 : Heap) (n0 : Nat) (v : Option Value) (h : Heap) (L : List Loc) : Prop := v = none ∧ Fr n0 L ∧ Keep h0 h [a1]
set_option maxRecDepth 65536 in
set_option maxHeartbeats 40000000 in
theorem rmU4 (l : Launch) (Z : State) (a0 : Array Value) (hw : ∀ d ∈ tables_1, d.before a0 Z = true) (ws : List Jvm.Cond) (a1 de : Addr) (h0 : Heap) (n0 : Nat) (Z0 : n0 ≤ h0.size) (E1 : Exa Z h0 a1 "com/example/traceloom/traceloom/discovery/PrefixStates") (F1 : Fld Z h0 a1 "com/example/traceloom/traceloom/discovery/PrefixStates" "states" "Ljava/util/List;" .null) (F2 : Fld Z h0 a1 "com/example/traceloom/traceloom/discovery/PrefixStates" "parents" "[I" .null) (F3 : Fld Z h0 a1 "com/example/traceloom/traceloom/discovery/PrefixStates" "lastActivities" "[I" .null) (F4 : Fld Z h0 a1 "com/example/traceloom/traceloom/discovery/PrefixStates" "table" "[I" .null) (F5 : Fld Z h0 a1 "com/example/traceloom/traceloom/discovery/PrefixStates" "presentActivities" "[I" .null) (F6 : Fld Z h0 a1 "com/example/traceloom/traceloom/discovery/PrefixStates" "presentCounts" "[I" .null) (F7 : Fld Z h0 a1 "com/example/traceloom/traceloom/discovery/PrefixStates" "presentStarts" "[I" .null) (g1 : n0 ≤ a1) (S0 : Sta Z h0 "java/util/ArrayList" "DEFAULTCAPACITY_EMPTY_ELEMENTDATA" "[Ljava/lang/Object;" (.ref de)) :
    MetFree l (⟨"com/example/traceloom/traceloom/discovery/PrefixStates", "<init>", "()V"⟩ : MethodName) (head1 (Jvm.Cond.code (⟨"com/example/traceloom/traceloom/discovery/PrefixStates", "<init>", "()V"⟩ : MethodName) prog_45_method_1_code 1 none :: ws) ({ frames := 4, cells := 7, slots := 52, locals := 50 } : Room)) (fun a U => a = #[(.ref a1)] ∧ Z.Warmed39 U.vm ∧ U.heap = h0) (fun _ _ _ _ _ => True) (fun _ U o U' => ∃ v L, o = .returned v ∧ QU4 Z a1 de h0 n0 v U'.heap L ∧ FrameEnd U o U' L ({ frames := 4, cells := 7, slots := 52, locals := 50 } : Room).cells ({ frames := 4, cells := 7, slots := 52, locals := 50 } : Room).slots) := by
  refine MetFree.of_bodySF (plainFor_of_name pnU4) hisR ?_
  intro p e s m args below meth c s₁ Bd hml0 hP hK
  obtain ⟨rfl, hZ, hh⟩ := hP
  have hx := Bd.exec
  have hby := Bd.bytes
  have hml : c.maxLocals = 1 := hml0
  have hown : s.vm.findClass "com/example/traceloom/traceloom/discovery/PrefixStates" = some m.cls := findClass_of_methodNamed Bd.named
  have hnm := (name_of_methodNamed Bd.named Bd.method).1
  have X0 : Stand p l e ({ frames := 4, cells := 7, slots := 52, locals := 50 } : Room) s m #[(.ref a1)] below meth c s₁ [] 0 0 := Stand.of_body Bd
  have e0 : s₁.heap = h0 := by rw [← hh, Bd.state]; rfl
  have N0 := Fr.nil n0
  have pre0 : ∀ t, Steps p.tables e below (s₁.setTop (mkF m 0 #[.val (.ref a1)] [])) t → Steps p.tables e below (s₁.setTop (entryFrame m #[(.ref a1)] 1)) t := fun t k => castTop (efU4 m a1) k
  obtain ⟨T1, X1, e1, st1⟩ := initO X0 hx hZ hown (hw _ (List.mem_of_getElem? (i := 9) rfl)) (hw _ (List.mem_of_getElem? (i := 10) rfl)) (hw _ (List.mem_of_getElem? (i := 11) rfl)) e0 (g := (mkF m 1 #[.val (.ref a1)] [(.ref a1)])) rfl (by rw [hml]; rfl) rfl (hb hby dU4_1) (by decide) (W := 0) (by show 2 * 0 + _ ≤ _; exact Nat.le_of_eq rfl) (by decide)
  obtain ⟨T2, h2, X2, e2, E2, A2, D2, -, st2⟩ := newO X1 hx hZ hown (hw _ (List.mem_of_getElem? (i := 12) rfl)) (hw _ (List.mem_of_getElem? (i := 13) rfl)) (hw _ (List.mem_of_getElem? (i := 14) rfl)) e1 (g := (mkF m 5 #[.val (.ref a1)] [(.ref a1)])) rfl (hb hby dU4_5) (by decide) (by decide)
  obtain ⟨li, g2⟩ : ∃ z, z = h0.size := ⟨_, rfl⟩
  rw [← g2] at A2 D2 st2
  have ne3 : a1 ≠ li := Nat.ne_of_lt (Nat.lt_of_lt_of_le E1.lt (Nat.le_of_eq g2.symm))
  have gg2 : n0 ≤ li := Nat.le_trans Z0 (Nat.le_of_eq g2.symm)
  have sz2 : h0.size ≤ li := Nat.le_trans (Keep.refl h0 [a1]).1 (Nat.le_of_eq g2.symm)
  have f4 := S0.ext E2
  have f5 := E1.ext E2
  have f6 := F1.ext E2
  have f7 := F2.ext E2
  have f8 := F3.ext E2
  have f9 := F4.ext E2
  have f10 := F5.ext E2
  have f11 := F6.ext E2
  have f12 := F7.ext E2
  have Z2 : n0 ≤ h2.size := Nat.le_trans Z0 E2.1
  have K2 := (Keep.refl h0 [a1]).ext E2
  have f13 : Fld Z h2 li "java/util/AbstractList" "modCount" "I" (.int (0 : Int32)) := D2 (Or.inl (hw _ (List.mem_of_getElem? (i := 32) rfl))) (ty := .int) (by decide)
  have f14 : Fld Z h2 li "java/util/ArrayList" "elementData" "[Ljava/lang/Object;" .null := D2 (Or.inl (hw _ (List.mem_of_getElem? (i := 35) rfl))) (ty := (.array (.object "java/lang/Object"))) (by decide)
  obtain ⟨_, _, ⟨T15, L15, k15, n15⟩, -, X15, ⟨Lc15, hQ15, l15, y15, z15⟩, st15⟩ := X2.specialBack hx (y := (⟨"java/util/ArrayList", "<init>", "()V"⟩ : MethodName)) rfl hown (mvT hZ (hw _ (List.mem_of_getElem? (i := 15) rfl))) (mvT hZ (hw _ (List.mem_of_getElem? (i := 16) rfl))) (mvT hZ (hw _ (List.mem_of_getElem? (i := 17) rfl))) (by decide) (backOf (W := 2) (rmU3 l Z a0 hw [] li de h2 n0 Z2 A2 f13 f14 gg2 f4) hZ (hw _ (List.mem_of_getElem? (i := 17) rfl)) (hw _ (List.mem_of_getElem? (i := 14) rfl)) (by decide) (by decide)) (g := (mkF m 9 #[.val (.ref a1)] [(.ref li), (.ref li), (.ref a1)])) rfl (by rw [hml]; rfl) (Steps.refl _) (a := li) (argsL := []) (rest := [(.ref li), (.ref a1)]) (lenOf pdU4_0 rfl) rfl (by show 2 * 0 + _ ≤ _; exact Nat.le_of_eq rfl) (hb hby dU4_9) (fun _ _ => ⟨rfl, e2, (by decide : 1 + 0 ≤ _), (by decide : 3 + 0 ≤ _)⟩)
  dsimp only [Pt.U, Pt.locs, Pt.cells, Pt.slots] at X15 l15 y15 z15 st15 hQ15
  subst l15 y15 z15
  obtain ⟨rfl, N15q, K15⟩ := hQ15
  have N15 := Fr.app N0 N15q
  have f16 := own_stakeep f4 K15 A2
  have f17 := f5.keep K15
  have f18 := f6.keep K15 (ninS ne3 nin0)
  have f19 := f7.keep K15 (ninS ne3 nin0)
  have f20 := f8.keep K15 (ninS ne3 nin0)
  have f21 := f9.keep K15 (ninS ne3 nin0)
  have f22 := f10.keep K15 (ninS ne3 nin0)
  have f23 := f11.keep K15 (ninS ne3 nin0)
  have f24 := f12.keep K15 (ninS ne3 nin0)
  have f25 := A2.keep K15
  have Z15 : n0 ≤ T15.heap.size := Nat.le_trans Z2 K15.1
  have KK15 := K2.trans K15 (allS (Or.inr sz2) all0)
  obtain ⟨T26, h26, X26, e26, W26, st26⟩ := putF X15 hx hZ hown (host := "") (Or.inl (hw _ (List.mem_of_getElem? (i := 36) rfl))) Via.refl rfl f18 f17 (Or.inr ⟨(hw _ (List.mem_of_getElem? (i := 37) rfl)), rfl, hnm⟩) (hw _ (List.mem_of_getElem? (i := 4) rfl)) (ty := (.object "java/util/List")) (by decide) rfl rfl (g := (mkF m 12 #[.val (.ref a1)] [(.ref li), (.ref a1)])) rfl rfl (hb hby dU4_12)
  have Fw26 := f18.same W26
  have f27 := f16.wr W26
  have f28 := f17.wr W26
  have f29 := f19.other W26 (Or.inr (slot_ne (Or.inl (hw _ (List.mem_of_getElem? (i := 40) rfl))) (Or.inr (hw _ (List.mem_of_getElem? (i := 37) rfl))) (by decide) (t := (.array .int)) (t' := (.object "java/util/List")) (by decide) (by decide)))
  have f30 := f20.other W26 (Or.inr (slot_ne (Or.inl (hw _ (List.mem_of_getElem? (i := 42) rfl))) (Or.inr (hw _ (List.mem_of_getElem? (i := 37) rfl))) (by decide) (t := (.array .int)) (t' := (.object "java/util/List")) (by decide) (by decide)))
  have f31 := f21.other W26 (Or.inr (slot_ne (Or.inl (hw _ (List.mem_of_getElem? (i := 44) rfl))) (Or.inr (hw _ (List.mem_of_getElem? (i := 37) rfl))) (by decide) (t := (.array .int)) (t' := (.object "java/util/List")) (by decide) (by decide)))
  have f32 := f22.other W26 (Or.inr (slot_ne (Or.inl (hw _ (List.mem_of_getElem? (i := 46) rfl))) (Or.inr (hw _ (List.mem_of_getElem? (i := 37) rfl))) (by decide) (t := (.array .int)) (t' := (.object "java/util/List")) (by decide) (by decide)))
  have f33 := f23.other W26 (Or.inr (slot_ne (Or.inl (hw _ (List.mem_of_getElem? (i := 48) rfl))) (Or.inr (hw _ (List.mem_of_getElem? (i := 37) rfl))) (by decide) (t := (.array .int)) (t' := (.object "java/util/List")) (by decide) (by decide)))
  have f34 := f24.other W26 (Or.inr (slot_ne (Or.inl (hw _ (List.mem_of_getElem? (i := 50) rfl))) (Or.inr (hw _ (List.mem_of_getElem? (i := 37) rfl))) (by decide) (t := (.array .int)) (t' := (.object "java/util/List")) (by decide) (by decide)))
  have f35 := f25.wr W26
  have N26 := Fr.snoc X26 N15 g1
  have K26 := KK15.wr W26 (Or.inl (List.mem_of_getElem? (i := 0) rfl))
  have Z26 : n0 ≤ h26.size := Nat.le_trans Z15 (Keep.of_wr W26).1
  obtain ⟨T36, h36, X36, e36, E36, A36, st36⟩ := oNew X26 hx hZ (hw _ (List.mem_of_getElem? (i := 38) rfl)) e26 (g := (mkF m 18 #[.val (.ref a1)] [(.int (16 : Int32)), (.ref a1)])) rfl (hb hby dU4_18) rfl (k := 16) (cap := 16) rfl (by decide) (by decide) (by decide) (by decide)
  obtain ⟨b0, g36⟩ : ∃ z, z = h26.size := ⟨_, rfl⟩
  rw [← g36] at A36 st36
  have ne37 : a1 ≠ b0 := Nat.ne_of_lt (Nat.lt_of_lt_of_le f28.lt (Nat.le_of_eq g36.symm))
  have gg36 : n0 ≤ b0 := Nat.le_trans Z26 (Nat.le_of_eq g36.symm)
  have sz36 : h0.size ≤ b0 := Nat.le_trans K26.1 (Nat.le_of_eq g36.symm)
  have f38 := f28.ext E36
  have f39 := Fw26.ext E36
  have f40 := f29.ext E36
  have f41 := f30.ext E36
  have f42 := f31.ext E36
  have f43 := f32.ext E36
  have f44 := f33.ext E36
  have f45 := f34.ext E36
  have Z36 : n0 ≤ h36.size := Nat.le_trans Z26 E36.1
  have K36 := K26.ext E36
  have B36 : OArr Z h36 b0 .int 16 (fun _ => .int (0 : Int32)) := A36
  obtain ⟨T46, h46, X46, e46, W46, st46⟩ := putF X36 hx hZ hown (host := "") (Or.inl (hw _ (List.mem_of_getElem? (i := 39) rfl))) Via.refl e36 f40 f38 (Or.inl (hw _ (List.mem_of_getElem? (i := 40) rfl))) (hw _ (List.mem_of_getElem? (i := 4) rfl)) (ty := (.array .int)) (by decide) rfl rfl (g := (mkF m 20 #[.val (.ref a1)] [(.ref b0), (.ref a1)])) rfl rfl (hb hby dU4_20)
  have Fw46 := f40.same W46
  have f47 := f38.wr W46
  have f48 := f39.other W46 (Or.inr (slot_ne (Or.inr (hw _ (List.mem_of_getElem? (i := 37) rfl))) (Or.inl (hw _ (List.mem_of_getElem? (i := 40) rfl))) (by decide) (t := (.object "java/util/List")) (t' := (.array .int)) (by decide) (by decide)))
  have f49 := f41.other W46 (Or.inr (slot_ne (Or.inl (hw _ (List.mem_of_getElem? (i := 42) rfl))) (Or.inl (hw _ (List.mem_of_getElem? (i := 40) rfl))) (by decide) (t := (.array .int)) (t' := (.array .int)) (by decide) (by decide)))
  have f50 := f42.other W46 (Or.inr (slot_ne (Or.inl (hw _ (List.mem_of_getElem? (i := 44) rfl))) (Or.inl (hw _ (List.mem_of_getElem? (i := 40) rfl))) (by decide) (t := (.array .int)) (t' := (.array .int)) (by decide) (by decide)))
  have f51 := f43.other W46 (Or.inr (slot_ne (Or.inl (hw _ (List.mem_of_getElem? (i := 46) rfl))) (Or.inl (hw _ (List.mem_of_getElem? (i := 40) rfl))) (by decide) (t := (.array .int)) (t' := (.array .int)) (by decide) (by decide)))
  have f52 := f44.other W46 (Or.inr (slot_ne (Or.inl (hw _ (List.mem_of_getElem? (i := 48) rfl))) (Or.inl (hw _ (List.mem_of_getElem? (i := 40) rfl))) (by decide) (t := (.array .int)) (t' := (.array .int)) (by decide) (by decide)))
  have f53 := f45.other W46 (Or.inr (slot_ne (Or.inl (hw _ (List.mem_of_getElem? (i := 50) rfl))) (Or.inl (hw _ (List.mem_of_getElem? (i := 40) rfl))) (by decide) (t := (.array .int)) (t' := (.array .int)) (by decide) (by decide)))
  have f54 := B36.other W46 (Ne.symm ne37)
  have N46 := Fr.snoc X46 N26 g1
  have K46 := K36.wr W46 (Or.inl (List.mem_of_getElem? (i := 0) rfl))
  have Z46 : n0 ≤ h46.size := Nat.le_trans Z36 (Keep.of_wr W46).1
  obtain ⟨T55, h55, X55, e55, E55, A55, st55⟩ := oNew X46 hx hZ (hw _ (List.mem_of_getElem? (i := 38) rfl)) e46 (g := (mkF m 26 #[.val (.ref a1)] [(.int (16 : Int32)), (.ref a1)])) rfl (hb hby dU4_26) rfl (k := 16) (cap := 16) rfl (by decide) (by decide) (by decide) (by decide)
  obtain ⟨b1, g55⟩ : ∃ z, z = h46.size := ⟨_, rfl⟩
  rw [← g55] at A55 st55
  have ne56 : a1 ≠ b1 := Nat.ne_of_lt (Nat.lt_of_lt_of_le f47.lt (Nat.le_of_eq g55.symm))
  have gg55 : n0 ≤ b1 := Nat.le_trans Z46 (Nat.le_of_eq g55.symm)
  have sz55 : h0.size ≤ b1 := Nat.le_trans K46.1 (Nat.le_of_eq g55.symm)
  have f57 := f47.ext E55
  have f58 := f48.ext E55
  have f59 := Fw46.ext E55
  have f60 := f49.ext E55
  have f61 := f50.ext E55
  have f62 := f51.ext E55
  have f63 := f52.ext E55
  have f64 := f53.ext E55
  have Z55 : n0 ≤ h55.size := Nat.le_trans Z46 E55.1
  have K55 := K46.ext E55
  have B55 : OArr Z h55 b1 .int 16 (fun _ => .int (0 : Int32)) := A55
  obtain ⟨T65, h65, X65, e65, W65, st65⟩ := putF X55 hx hZ hown (host := "") (Or.inl (hw _ (List.mem_of_getElem? (i := 41) rfl))) Via.refl e55 f60 f57 (Or.inl (hw _ (List.mem_of_getElem? (i := 42) rfl))) (hw _ (List.mem_of_getElem? (i := 4) rfl)) (ty := (.array .int)) (by decide) rfl rfl (g := (mkF m 28 #[.val (.ref a1)] [(.ref b1), (.ref a1)])) rfl rfl (hb hby dU4_28)
  have Fw65 := f60.same W65
  have f66 := f57.wr W65
  have f67 := f58.other W65 (Or.inr (slot_ne (Or.inr (hw _ (List.mem_of_getElem? (i := 37) rfl))) (Or.inl (hw _ (List.mem_of_getElem? (i := 42) rfl))) (by decide) (t := (.object "java/util/List")) (t' := (.array .int)) (by decide) (by decide)))
  have f68 := f59.other W65 (Or.inr (slot_ne (Or.inl (hw _ (List.mem_of_getElem? (i := 40) rfl))) (Or.inl (hw _ (List.mem_of_getElem? (i := 42) rfl))) (by decide) (t := (.array .int)) (t' := (.array .int)) (by decide) (by decide)))
  have f69 := f61.other W65 (Or.inr (slot_ne (Or.inl (hw _ (List.mem_of_getElem? (i := 44) rfl))) (Or.inl (hw _ (List.mem_of_getElem? (i := 42) rfl))) (by decide) (t := (.array .int)) (t' := (.array .int)) (by decide) (by decide)))
  have f70 := f62.other W65 (Or.inr (slot_ne (Or.inl (hw _ (List.mem_of_getElem? (i := 46) rfl))) (Or.inl (hw _ (List.mem_of_getElem? (i := 42) rfl))) (by decide) (t := (.array .int)) (t' := (.array .int)) (by decide) (by decide)))
  have f71 := f63.other W65 (Or.inr (slot_ne (Or.inl (hw _ (List.mem_of_getElem? (i := 48) rfl))) (Or.inl (hw _ (List.mem_of_getElem? (i := 42) rfl))) (by decide) (t := (.array .int)) (t' := (.array .int)) (by decide) (by decide)))
  have f72 := f64.other W65 (Or.inr (slot_ne (Or.inl (hw _ (List.mem_of_getElem? (i := 50) rfl))) (Or.inl (hw _ (List.mem_of_getElem? (i := 42) rfl))) (by decide) (t := (.array .int)) (t' := (.array .int)) (by decide) (by decide)))
  have f73 := B55.other W65 (Ne.symm ne56)
  have N65 := Fr.snoc X65 N46 g1
  have K65 := K55.wr W65 (Or.inl (List.mem_of_getElem? (i := 0) rfl))
  have Z65 : n0 ≤ h65.size := Nat.le_trans Z55 (Keep.of_wr W65).1
  obtain ⟨T74, h74, X74, e74, E74, A74, st74⟩ := oNew X65 hx hZ (hw _ (List.mem_of_getElem? (i := 38) rfl)) e65 (g := (mkF m 33 #[.val (.ref a1)] [(.int (0 : Int32)), (.ref a1)])) rfl (hb hby dU4_33) rfl (k := 0) (cap := 0) rfl (by decide) (by decide) (by decide) (by decide)
  obtain ⟨b2, g74⟩ : ∃ z, z = h65.size := ⟨_, rfl⟩
  rw [← g74] at A74 st74
  have ne75 : a1 ≠ b2 := Nat.ne_of_lt (Nat.lt_of_lt_of_le f66.lt (Nat.le_of_eq g74.symm))
  have gg74 : n0 ≤ b2 := Nat.le_trans Z65 (Nat.le_of_eq g74.symm)
  have sz74 : h0.size ≤ b2 := Nat.le_trans K65.1 (Nat.le_of_eq g74.symm)
  have f76 := f66.ext E74
  have f77 := f67.ext E74
  have f78 := f68.ext E74
  have f79 := Fw65.ext E74
  have f80 := f69.ext E74
  have f81 := f70.ext E74
  have f82 := f71.ext E74
  have f83 := f72.ext E74
  have Z74 : n0 ≤ h74.size := Nat.le_trans Z65 E74.1
  have K74 := K65.ext E74
  have B74 : OArr Z h74 b2 .int 0 (fun _ => .int (0 : Int32)) := A74
  obtain ⟨T84, h84, X84, e84, W84, st84⟩ := putF X74 hx hZ hown (host := "") (Or.inl (hw _ (List.mem_of_getElem? (i := 43) rfl))) Via.refl e74 f80 f76 (Or.inl (hw _ (List.mem_of_getElem? (i := 44) rfl))) (hw _ (List.mem_of_getElem? (i := 4) rfl)) (ty := (.array .int)) (by decide) rfl rfl (g := (mkF m 35 #[.val (.ref a1)] [(.ref b2), (.ref a1)])) rfl rfl (hb hby dU4_35)
  have Fw84 := f80.same W84
  have f85 := f76.wr W84
  have f86 := f77.other W84 (Or.inr (slot_ne (Or.inr (hw _ (List.mem_of_getElem? (i := 37) rfl))) (Or.inl (hw _ (List.mem_of_getElem? (i := 44) rfl))) (by decide) (t := (.object "java/util/List")) (t' := (.array .int)) (by decide) (by decide)))
  have f87 := f78.other W84 (Or.inr (slot_ne (Or.inl (hw _ (List.mem_of_getElem? (i := 40) rfl))) (Or.inl (hw _ (List.mem_of_getElem? (i := 44) rfl))) (by decide) (t := (.array .int)) (t' := (.array .int)) (by decide) (by decide)))
  have f88 := f79.other W84 (Or.inr (slot_ne (Or.inl (hw _ (List.mem_of_getElem? (i := 42) rfl))) (Or.inl (hw _ (List.mem_of_getElem? (i := 44) rfl))) (by decide) (t := (.array .int)) (t' := (.array .int)) (by decide) (by decide)))
  have f89 := f81.other W84 (Or.inr (slot_ne (Or.inl (hw _ (List.mem_of_getElem? (i := 46) rfl))) (Or.inl (hw _ (List.mem_of_getElem? (i := 44) rfl))) (by decide) (t := (.array .int)) (t' := (.array .int)) (by decide) (by decide)))
  have f90 := f82.other W84 (Or.inr (slot_ne (Or.inl (hw _ (List.mem_of_getElem? (i := 48) rfl))) (Or.inl (hw _ (List.mem_of_getElem? (i := 44) rfl))) (by decide) (t := (.array .int)) (t' := (.array .int)) (by decide) (by decide)))
  have f91 := f83.other W84 (Or.inr (slot_ne (Or.inl (hw _ (List.mem_of_getElem? (i := 50) rfl))) (Or.inl (hw _ (List.mem_of_getElem? (i := 44) rfl))) (by decide) (t := (.array .int)) (t' := (.array .int)) (by decide) (by decide)))
  have f92 := B74.other W84 (Ne.symm ne75)
  have N84 := Fr.snoc X84 N65 g1
  have K84 := K74.wr W84 (Or.inl (List.mem_of_getElem? (i := 0) rfl))
  have Z84 : n0 ≤ h84.size := Nat.le_trans Z74 (Keep.of_wr W84).1
  obtain ⟨T93, h93, X93, e93, E93, A93, st93⟩ := oNew X84 hx hZ (hw _ (List.mem_of_getElem? (i := 38) rfl)) e84 (g := (mkF m 40 #[.val (.ref a1)] [(.int (0 : Int32)), (.ref a1)])) rfl (hb hby dU4_40) rfl (k := 0) (cap := 0) rfl (by decide) (by decide) (by decide) (by decide)
  obtain ⟨b3, g93⟩ : ∃ z, z = h84.size := ⟨_, rfl⟩
  rw [← g93] at A93 st93
  have ne94 : a1 ≠ b3 := Nat.ne_of_lt (Nat.lt_of_lt_of_le f85.lt (Nat.le_of_eq g93.symm))
  have gg93 : n0 ≤ b3 := Nat.le_trans Z84 (Nat.le_of_eq g93.symm)
  have sz93 : h0.size ≤ b3 := Nat.le_trans K84.1 (Nat.le_of_eq g93.symm)
  have f95 := f85.ext E93
  have f96 := f86.ext E93
  have f97 := f87.ext E93
  have f98 := f88.ext E93
  have f99 := Fw84.ext E93
  have f100 := f89.ext E93
  have f101 := f90.ext E93
  have f102 := f91.ext E93
  have Z93 : n0 ≤ h93.size := Nat.le_trans Z84 E93.1
  have K93 := K84.ext E93
  have B93 : OArr Z h93 b3 .int 0 (fun _ => .int (0 : Int32)) := A93
  obtain ⟨T103, h103, X103, e103, W103, st103⟩ := putF X93 hx hZ hown (host := "") (Or.inl (hw _ (List.mem_of_getElem? (i := 45) rfl))) Via.refl e93 f100 f95 (Or.inl (hw _ (List.mem_of_getElem? (i := 46) rfl))) (hw _ (List.mem_of_getElem? (i := 4) rfl)) (ty := (.array .int)) (by decide) rfl rfl (g := (mkF m 42 #[.val (.ref a1)] [(.ref b3), (.ref a1)])) rfl rfl (hb hby dU4_42)
  have Fw103 := f100.same W103
  have f104 := f95.wr W103
  have f105 := f96.other W103 (Or.inr (slot_ne (Or.inr (hw _ (List.mem_of_getElem? (i := 37) rfl))) (Or.inl (hw _ (List.mem_of_getElem? (i := 46) rfl))) (by decide) (t := (.object "java/util/List")) (t' := (.array .int)) (by decide) (by decide)))
  have f106 := f97.other W103 (Or.inr (slot_ne (Or.inl (hw _ (List.mem_of_getElem? (i := 40) rfl))) (Or.inl (hw _ (List.mem_of_getElem? (i := 46) rfl))) (by decide) (t := (.array .int)) (t' := (.array .int)) (by decide) (by decide)))
  have f107 := f98.other W103 (Or.inr (slot_ne (Or.inl (hw _ (List.mem_of_getElem? (i := 42) rfl))) (Or.inl (hw _ (List.mem_of_getElem? (i := 46) rfl))) (by decide) (t := (.array .int)) (t' := (.array .int)) (by decide) (by decide)))
  have f108 := f99.other W103 (Or.inr (slot_ne (Or.inl (hw _ (List.mem_of_getElem? (i := 44) rfl))) (Or.inl (hw _ (List.mem_of_getElem? (i := 46) rfl))) (by decide) (t := (.array .int)) (t' := (.array .int)) (by decide) (by decide)))
  have f109 := f101.other W103 (Or.inr (slot_ne (Or.inl (hw _ (List.mem_of_getElem? (i := 48) rfl))) (Or.inl (hw _ (List.mem_of_getElem? (i := 46) rfl))) (by decide) (t := (.array .int)) (t' := (.array .int)) (by decide) (by decide)))
  have f110 := f102.other W103 (Or.inr (slot_ne (Or.inl (hw _ (List.mem_of_getElem? (i := 50) rfl))) (Or.inl (hw _ (List.mem_of_getElem? (i := 46) rfl))) (by decide) (t := (.array .int)) (t' := (.array .int)) (by decide) (by decide)))
  have f111 := B93.other W103 (Ne.symm ne94)
  have N103 := Fr.snoc X103 N84 g1
  have K103 := K93.wr W103 (Or.inl (List.mem_of_getElem? (i := 0) rfl))
  have Z103 : n0 ≤ h103.size := Nat.le_trans Z93 (Keep.of_wr W103).1
  obtain ⟨T112, h112, X112, e112, E112, A112, st112⟩ := oNew X103 hx hZ (hw _ (List.mem_of_getElem? (i := 38) rfl)) e103 (g := (mkF m 47 #[.val (.ref a1)] [(.int (0 : Int32)), (.ref a1)])) rfl (hb hby dU4_47) rfl (k := 0) (cap := 0) rfl (by decide) (by decide) (by decide) (by decide)
  obtain ⟨b4, g112⟩ : ∃ z, z = h103.size := ⟨_, rfl⟩
  rw [← g112] at A112 st112
  have ne113 : a1 ≠ b4 := Nat.ne_of_lt (Nat.lt_of_lt_of_le f104.lt (Nat.le_of_eq g112.symm))
  have gg112 : n0 ≤ b4 := Nat.le_trans Z103 (Nat.le_of_eq g112.symm)
  have sz112 : h0.size ≤ b4 := Nat.le_trans K103.1 (Nat.le_of_eq g112.symm)
  have f114 := f104.ext E112
  have f115 := f105.ext E112
  have f116 := f106.ext E112
  have f117 := f107.ext E112
  have f118 := f108.ext E112
  have f119 := Fw103.ext E112
  have f120 := f109.ext E112
  have f121 := f110.ext E112
  have Z112 : n0 ≤ h112.size := Nat.le_trans Z103 E112.1
  have K112 := K103.ext E112
  have B112 : OArr Z h112 b4 .int 0 (fun _ => .int (0 : Int32)) := A112
  obtain ⟨T122, h122, X122, e122, W122, st122⟩ := putF X112 hx hZ hown (host := "") (Or.inl (hw _ (List.mem_of_getElem? (i := 47) rfl))) Via.refl e112 f120 f114 (Or.inl (hw _ (List.mem_of_getElem? (i := 48) rfl))) (hw _ (List.mem_of_getElem? (i := 4) rfl)) (ty := (.array .int)) (by decide) rfl rfl (g := (mkF m 49 #[.val (.ref a1)] [(.ref b4), (.ref a1)])) rfl rfl (hb hby dU4_49)
  have Fw122 := f120.same W122
  have f123 := f114.wr W122
  have f124 := f115.other W122 (Or.inr (slot_ne (Or.inr (hw _ (List.mem_of_getElem? (i := 37) rfl))) (Or.inl (hw _ (List.mem_of_getElem? (i := 48) rfl))) (by decide) (t := (.object "java/util/List")) (t' := (.array .int)) (by decide) (by decide)))
  have f125 := f116.other W122 (Or.inr (slot_ne (Or.inl (hw _ (List.mem_of_getElem? (i := 40) rfl))) (Or.inl (hw _ (List.mem_of_getElem? (i := 48) rfl))) (by decide) (t := (.array .int)) (t' := (.array .int)) (by decide) (by decide)))
  have f126 := f117.other W122 (Or.inr (slot_ne (Or.inl (hw _ (List.mem_of_getElem? (i := 42) rfl))) (Or.inl (hw _ (List.mem_of_getElem? (i := 48) rfl))) (by decide) (t := (.array .int)) (t' := (.array .int)) (by decide) (by decide)))
  have f127 := f118.other W122 (Or.inr (slot_ne (Or.inl (hw _ (List.mem_of_getElem? (i := 44) rfl))) (Or.inl (hw _ (List.mem_of_getElem? (i := 48) rfl))) (by decide) (t := (.array .int)) (t' := (.array .int)) (by decide) (by decide)))
  have f128 := f119.other W122 (Or.inr (slot_ne (Or.inl (hw _ (List.mem_of_getElem? (i := 46) rfl))) (Or.inl (hw _ (List.mem_of_getElem? (i := 48) rfl))) (by decide) (t := (.array .int)) (t' := (.array .int)) (by decide) (by decide)))
  have f129 := f121.other W122 (Or.inr (slot_ne (Or.inl (hw _ (List.mem_of_getElem? (i := 50) rfl))) (Or.inl (hw _ (List.mem_of_getElem? (i := 48) rfl))) (by decide) (t := (.array .int)) (t' := (.array .int)) (by decide) (by decide)))
  have f130 := B112.other W122 (Ne.symm ne113)
  have N122 := Fr.snoc X122 N103 g1
  have K122 := K112.wr W122 (Or.inl (List.mem_of_getElem? (i := 0) rfl))
  have Z122 : n0 ≤ h122.size := Nat.le_trans Z112 (Keep.of_wr W122).1
  obtain ⟨T131, h131, X131, e131, E131, A131, st131⟩ := oNew X122 hx hZ (hw _ (List.mem_of_getElem? (i := 38) rfl)) e122 (g := (mkF m 55 #[.val (.ref a1)] [(.int (17 : Int32)), (.ref a1)])) rfl (hb hby dU4_55) rfl (k := 17) (cap := 17) rfl (by decide) (by decide) (by decide) (by decide)
  obtain ⟨b5, g131⟩ : ∃ z, z = h122.size := ⟨_, rfl⟩
  rw [← g131] at A131 st131
  have ne132 : a1 ≠ b5 := Nat.ne_of_lt (Nat.lt_of_lt_of_le f123.lt (Nat.le_of_eq g131.symm))
  have gg131 : n0 ≤ b5 := Nat.le_trans Z122 (Nat.le_of_eq g131.symm)
  have sz131 : h0.size ≤ b5 := Nat.le_trans K122.1 (Nat.le_of_eq g131.symm)
  have f133 := f123.ext E131
  have f134 := f124.ext E131
  have f135 := f125.ext E131
  have f136 := f126.ext E131
  have f137 := f127.ext E131
  have f138 := f128.ext E131
  have f139 := Fw122.ext E131
  have f140 := f129.ext E131
  have Z131 : n0 ≤ h131.size := Nat.le_trans Z122 E131.1
  have K131 := K122.ext E131
  have B131 : OArr Z h131 b5 .int 17 (fun _ => .int (0 : Int32)) := A131
  obtain ⟨T141, h141, X141, e141, W141, st141⟩ := putF X131 hx hZ hown (host := "") (Or.inl (hw _ (List.mem_of_getElem? (i := 49) rfl))) Via.refl e131 f140 f133 (Or.inl (hw _ (List.mem_of_getElem? (i := 50) rfl))) (hw _ (List.mem_of_getElem? (i := 4) rfl)) (ty := (.array .int)) (by decide) rfl rfl (g := (mkF m 57 #[.val (.ref a1)] [(.ref b5), (.ref a1)])) rfl rfl (hb hby dU4_57)
  have Fw141 := f140.same W141
  have f142 := f133.wr W141
  have f143 := f134.other W141 (Or.inr (slot_ne (Or.inr (hw _ (List.mem_of_getElem? (i := 37) rfl))) (Or.inl (hw _ (List.mem_of_getElem? (i := 50) rfl))) (by decide) (t := (.object "java/util/List")) (t' := (.array .int)) (by decide) (by decide)))
  have f144 := f135.other W141 (Or.inr (slot_ne (Or.inl (hw _ (List.mem_of_getElem? (i := 40) rfl))) (Or.inl (hw _ (List.mem_of_getElem? (i := 50) rfl))) (by decide) (t := (.array .int)) (t' := (.array .int)) (by decide) (by decide)))
  have f145 := f136.other W141 (Or.inr (slot_ne (Or.inl (hw _ (List.mem_of_getElem? (i := 42) rfl))) (Or.inl (hw _ (List.mem_of_getElem? (i := 50) rfl))) (by decide) (t := (.array .int)) (t' := (.array .int)) (by decide) (by decide)))
  have f146 := f137.other W141 (Or.inr (slot_ne (Or.inl (hw _ (List.mem_of_getElem? (i := 44) rfl))) (Or.inl (hw _ (List.mem_of_getElem? (i := 50) rfl))) (by decide) (t := (.array .int)) (t' := (.array .int)) (by decide) (by decide)))
  have f147 := f138.other W141 (Or.inr (slot_ne (Or.inl (hw _ (List.mem_of_getElem? (i := 46) rfl))) (Or.inl (hw _ (List.mem_of_getElem? (i := 50) rfl))) (by decide) (t := (.array .int)) (t' := (.array .int)) (by decide) (by decide)))
  have f148 := f139.other W141 (Or.inr (slot_ne (Or.inl (hw _ (List.mem_of_getElem? (i := 48) rfl))) (Or.inl (hw _ (List.mem_of_getElem? (i := 50) rfl))) (by decide) (t := (.array .int)) (t' := (.array .int)) (by decide) (by decide)))
  have f149 := B131.other W141 (Ne.symm ne132)
  have N141 := Fr.snoc X141 N122 g1
  have K141 := K131.wr W141 (Or.inl (List.mem_of_getElem? (i := 0) rfl))
  have Z141 : n0 ≤ h141.size := Nat.le_trans Z131 (Keep.of_wr W141).1
  have pre150 : ∀ t, Steps p.tables e below (T141.setTop (mkF m 60 #[.val (.ref a1)] [])) t → Steps p.tables e below (s₁.setTop (entryFrame m #[(.ref a1)] 1)) t := fun t_ k_ => pre0 t_ (by
      refine XS.aloadN X0.here hx rfl (hb hby dU4_0) rfl rfl ?_
      show Steps p.tables e below (s₁.setTop (mkF m 1 #[.val (.ref a1)] [(.ref a1)])) _
      refine st1 _ ?_
      show Steps p.tables e below (T1.setTop (mkF m 4 #[.val (.ref a1)] [])) _
      refine XS.aloadN X1.here hx rfl (hb hby dU4_4) rfl rfl ?_
      show Steps p.tables e below (T1.setTop (mkF m 5 #[.val (.ref a1)] [(.ref a1)])) _
      refine st2 _ ?_
      show Steps p.tables e below (T2.setTop (mkF m 8 #[.val (.ref a1)] [(.ref li), (.ref a1)])) _
      refine XS.dup X2.here hx rfl (hb hby dU4_8) rfl rfl ?_
      show Steps p.tables e below (T2.setTop (mkF m 9 #[.val (.ref a1)] [(.ref li), (.ref li), (.ref a1)])) _
      refine st15.trans ?_
      show Steps p.tables e below (T15.setTop (mkF m 12 #[.val (.ref a1)] [(.ref li), (.ref a1)])) _
      refine st26 _ ?_
      show Steps p.tables e below (T26.setTop (mkF m 15 #[.val (.ref a1)] [])) _
      refine XS.aloadN X26.here hx rfl (hb hby dU4_15) rfl rfl ?_
      show Steps p.tables e below (T26.setTop (mkF m 16 #[.val (.ref a1)] [(.ref a1)])) _
      refine XS.bipush X26.here hx rfl (hb hby dU4_16) ?_
      show Steps p.tables e below (T26.setTop (mkF m 18 #[.val (.ref a1)] [(.int (16 : Int32)), (.ref a1)])) _
      refine st36 _ ?_
      show Steps p.tables e below (T36.setTop (mkF m 20 #[.val (.ref a1)] [(.ref b0), (.ref a1)])) _
      refine st46 _ ?_
      show Steps p.tables e below (T46.setTop (mkF m 23 #[.val (.ref a1)] [])) _
      refine XS.aloadN X46.here hx rfl (hb hby dU4_23) rfl rfl ?_
      show Steps p.tables e below (T46.setTop (mkF m 24 #[.val (.ref a1)] [(.ref a1)])) _
      refine XS.bipush X46.here hx rfl (hb hby dU4_24) ?_
      show Steps p.tables e below (T46.setTop (mkF m 26 #[.val (.ref a1)] [(.int (16 : Int32)), (.ref a1)])) _
      refine st55 _ ?_
      show Steps p.tables e below (T55.setTop (mkF m 28 #[.val (.ref a1)] [(.ref b1), (.ref a1)])) _
      refine st65 _ ?_
      show Steps p.tables e below (T65.setTop (mkF m 31 #[.val (.ref a1)] [])) _
      refine XS.aloadN X65.here hx rfl (hb hby dU4_31) rfl rfl ?_
      show Steps p.tables e below (T65.setTop (mkF m 32 #[.val (.ref a1)] [(.ref a1)])) _
      refine XS.iconst X65.here hx rfl (hb hby dU4_32) ?_
      show Steps p.tables e below (T65.setTop (mkF m 33 #[.val (.ref a1)] [(.int (0 : Int32)), (.ref a1)])) _
      refine st74 _ ?_
      show Steps p.tables e below (T74.setTop (mkF m 35 #[.val (.ref a1)] [(.ref b2), (.ref a1)])) _
      refine st84 _ ?_
      show Steps p.tables e below (T84.setTop (mkF m 38 #[.val (.ref a1)] [])) _
      refine XS.aloadN X84.here hx rfl (hb hby dU4_38) rfl rfl ?_
      show Steps p.tables e below (T84.setTop (mkF m 39 #[.val (.ref a1)] [(.ref a1)])) _
      refine XS.iconst X84.here hx rfl (hb hby dU4_39) ?_
      show Steps p.tables e below (T84.setTop (mkF m 40 #[.val (.ref a1)] [(.int (0 : Int32)), (.ref a1)])) _
      refine st93 _ ?_
      show Steps p.tables e below (T93.setTop (mkF m 42 #[.val (.ref a1)] [(.ref b3), (.ref a1)])) _
      refine st103 _ ?_
      show Steps p.tables e below (T103.setTop (mkF m 45 #[.val (.ref a1)] [])) _
      refine XS.aloadN X103.here hx rfl (hb hby dU4_45) rfl rfl ?_
      show Steps p.tables e below (T103.setTop (mkF m 46 #[.val (.ref a1)] [(.ref a1)])) _
      refine XS.iconst X103.here hx rfl (hb hby dU4_46) ?_
      show Steps p.tables e below (T103.setTop (mkF m 47 #[.val (.ref a1)] [(.int (0 : Int32)), (.ref a1)])) _
      refine st112 _ ?_
      show Steps p.tables e below (T112.setTop (mkF m 49 #[.val (.ref a1)] [(.ref b4), (.ref a1)])) _
      refine st122 _ ?_
      show Steps p.tables e below (T122.setTop (mkF m 52 #[.val (.ref a1)] [])) _
      refine XS.aloadN X122.here hx rfl (hb hby dU4_52) rfl rfl ?_
      show Steps p.tables e below (T122.setTop (mkF m 53 #[.val (.ref a1)] [(.ref a1)])) _
      refine XS.bipush X122.here hx rfl (hb hby dU4_53) ?_
      show Steps p.tables e below (T122.setTop (mkF m 55 #[.val (.ref a1)] [(.int (17 : Int32)), (.ref a1)])) _
      refine st131 _ ?_
      show Steps p.tables e below (T131.setTop (mkF m 57 #[.val (.ref a1)] [(.ref b5), (.ref a1)])) _
      refine st141 _ ?_
      show Steps p.tables e below (T141.setTop (mkF m 60 #[.val (.ref a1)] [])) _
      exact k_)
  obtain ⟨fs, hr, hrun, hended, hW, hsame⟩ := X141.leave (v := none) (fun _ => rfl)
  refine ⟨_, _, pre150 _ ?_, hrun, hended, _, _, rfl, ?_, ⟨_, rfl⟩, hW, hsame.mono (by decide) (by decide)⟩
  · exact X141.returnOut hx Bd.returns (hb hby dU4_60) hr
  · show QU4 Z a1 de h0 n0 _ T141.heap _
    rw [e141]
    exact ⟨rfl, N141, K141⟩
theorem dU5_0 : decode prog_18_method_1_code 0 = .ok (.aload_n 0, 1) := by decide +kernel
theorem dU5_1 : decode prog_18_method_1_code 1 = .ok (.invokespecial 1, 3) := by decide +kernel
theorem dU5_4 : decode prog_18_method_1_code 4 = .ok (.aload_n 0, 1) := by decide +kernel
theorem dU5_5 : decode prog_18_method_1_code 5 = .ok (.aload_n 1, 1) := by decide +kernel
theorem dU5_6 : decode prog_18_method_1_code 6 = .ok (.putfield 7, 3) := by decide +kernel
theorem dU5_9 : decode prog_18_method_1_code 9 = .ok (.aload_n 0, 1) := by decide +kernel
theorem dU5_10 : decode prog_18_method_1_code 10 = .ok (.iload_n 2, 1) := by decide +kernel
theorem dU5_11 : decode prog_18_method_1_code 11 = .ok (.putfield 13, 3) := by decide +kernel
theorem dU5_14 : decode prog_18_method_1_code 14 = .ok (.aload_n 0, 1) := by decide +kernel
theorem dU5_15 : decode prog_18_method_1_code 15 = .ok (.iload_n 3, 1) := by decide +kernel
theorem dU5_16 : decode prog_18_method_1_code 16 = .ok (.putfield 17, 3) := by decide +kernel
theorem dU5_19 : decode prog_18_method_1_code 19 = .ok (.return_, 1) := by decide +kernel
theorem pnU5 : plainName "com/example/traceloom/traceloom/discovery/Candidates" = true := by first | (simp [plainName, overriddenIn]; done) | decide +kernel
theorem efU5 (m : MethodId) (a1 : Addr) (a2 : Addr) (p3 : Int32) (p4 : Int32) : entryFrame m #[(.ref a1), (.ref a2), (.int p3), (.int p4)] 4 = mkF m 0 #[.val (.ref a1), .val (.ref a2), .val (.int p3), .val (.int p4)] [] := by first | (simp [entryFrame, mkF, argsToLocals, Value.category]; done) | rfl
def QU5 (Z : State) (a1 a2 : Addr) (p3 p4 : Int32) (h0 : Heap) (n0 : Nat) (v : Option Value) (h : Heap) (L : List Loc) : Prop := v = none ∧ Fr n0 L ∧ Keep h0 h [a1] ∧ Fld Z h a1 "com/example/traceloom/traceloom/discovery/Candidates" "capacity" "I" (.int p3) ∧ Fld Z h a1 "com/example/traceloom/traceloom/discovery/Candidates" "activityCount" "I" (.int p4) ∧ Fld Z h a1 "com/example/traceloom/traceloom/discovery/Candidates" "size" "I" (.int (0 : Int32)) ∧ Fld Z h a1 "com/example/traceloom/traceloom/discovery/Candidates" "left" "I" (.int (0 : Int32)) ∧ Fld Z h a1 "com/example/traceloom/traceloom/discovery/Candidates" "stateIndexes" "[I" .null ∧ Fld Z h a1 "com/example/traceloom/traceloom/discovery/Candidates" "followers" "[I" .null ∧ Fld Z h a1 "com/example/traceloom/traceloom/discovery/Candidates" "positions" "[I" .null ∧ Fld Z h a1 "com/example/traceloom/traceloom/discovery/Candidates" "counts" "[J" .null ∧ Fld Z h a1 "com/example/traceloom/traceloom/discovery/Candidates" "taken" "[Z" .null ∧ Fld Z h a1 "com/example/traceloom/traceloom/discovery/Candidates" "holds" "[J" .null
set_option maxRecDepth 65536 in
set_option maxHeartbeats 40000000 in
theorem rmU5 (l : Launch) (Z : State) (a0 : Array Value) (hw : ∀ d ∈ tables_1, d.before a0 Z = true) (ws : List Jvm.Cond) (a1 a2 : Addr) (p3 p4 : Int32) (h0 : Heap) (n0 : Nat) (Z0 : n0 ≤ h0.size) (E1 : Exa Z h0 a1 "com/example/traceloom/traceloom/discovery/Candidates") (F1 : Fld Z h0 a1 "com/example/traceloom/traceloom/discovery/Candidates" "states" "Lcom/example/traceloom/traceloom/discovery/PrefixStates;" .null) (F2 : Fld Z h0 a1 "com/example/traceloom/traceloom/discovery/Candidates" "capacity" "I" (.int (0 : Int32))) (F3 : Fld Z h0 a1 "com/example/traceloom/traceloom/discovery/Candidates" "activityCount" "I" (.int (0 : Int32))) (F4 : Fld Z h0 a1 "com/example/traceloom/traceloom/discovery/Candidates" "size" "I" (.int (0 : Int32))) (F5 : Fld Z h0 a1 "com/example/traceloom/traceloom/discovery/Candidates" "left" "I" (.int (0 : Int32))) (F6 : Fld Z h0 a1 "com/example/traceloom/traceloom/discovery/Candidates" "stateIndexes" "[I" .null) (F7 : Fld Z h0 a1 "com/example/traceloom/traceloom/discovery/Candidates" "followers" "[I" .null) (F8 : Fld Z h0 a1 "com/example/traceloom/traceloom/discovery/Candidates" "positions" "[I" .null) (F9 : Fld Z h0 a1 "com/example/traceloom/traceloom/discovery/Candidates" "counts" "[J" .null) (F10 : Fld Z h0 a1 "com/example/traceloom/traceloom/discovery/Candidates" "taken" "[Z" .null) (F11 : Fld Z h0 a1 "com/example/traceloom/traceloom/discovery/Candidates" "holds" "[J" .null) (g1 : n0 ≤ a1) :
    MetFree l (⟨"com/example/traceloom/traceloom/discovery/Candidates", "<init>", "(Lcom/example/traceloom/traceloom/discovery/PrefixStates;II)V"⟩ : MethodName) (head1 (Jvm.Cond.code (⟨"com/example/traceloom/traceloom/discovery/Candidates", "<init>", "(Lcom/example/traceloom/traceloom/discovery/PrefixStates;II)V"⟩ : MethodName) prog_18_method_1_code 4 none :: ws) ({ frames := 1, cells := 0, slots := 0, locals := 12 } : Room)) (fun a U => a = #[(.ref a1), (.ref a2), (.int p3), (.int p4)] ∧ Z.Warmed39 U.vm ∧ U.heap = h0) (fun _ _ _ _ _ => True) (fun _ U o U' => ∃ v L, o = .returned v ∧ QU5 Z a1 a2 p3 p4 h0 n0 v U'.heap L ∧ FrameEnd U o U' L ({ frames := 1, cells := 0, slots := 0, locals := 12 } : Room).cells ({ frames := 1, cells := 0, slots := 0, locals := 12 } : Room).slots) := by
  refine MetFree.of_bodySF (plainFor_of_name pnU5) hisR ?_
  intro p e s m args below meth c s₁ Bd hml0 hP hK
  obtain ⟨rfl, hZ, hh⟩ := hP
  have hx := Bd.exec
  have hby := Bd.bytes
  have hml : c.maxLocals = 4 := hml0
  have hown : s.vm.findClass "com/example/traceloom/traceloom/discovery/Candidates" = some m.cls := findClass_of_methodNamed Bd.named
  have hnm := (name_of_methodNamed Bd.named Bd.method).1
  have X0 : Stand p l e ({ frames := 1, cells := 0, slots := 0, locals := 12 } : Room) s m #[(.ref a1), (.ref a2), (.int p3), (.int p4)] below meth c s₁ [] 0 0 := Stand.of_body Bd
  have e0 : s₁.heap = h0 := by rw [← hh, Bd.state]; rfl
  have N0 := Fr.nil n0
  have pre0 : ∀ t, Steps p.tables e below (s₁.setTop (mkF m 0 #[.val (.ref a1), .val (.ref a2), .val (.int p3), .val (.int p4)] [])) t → Steps p.tables e below (s₁.setTop (entryFrame m #[(.ref a1), (.ref a2), (.int p3), (.int p4)] 4)) t := fun t k => castTop (efU5 m a1 a2 p3 p4) k
  obtain ⟨T1, X1, e1, st1⟩ := initO X0 hx hZ hown (hw _ (List.mem_of_getElem? (i := 54) rfl)) (hw _ (List.mem_of_getElem? (i := 10) rfl)) (hw _ (List.mem_of_getElem? (i := 11) rfl)) e0 (g := (mkF m 1 #[.val (.ref a1), .val (.ref a2), .val (.int p3), .val (.int p4)] [(.ref a1)])) rfl (by rw [hml]; rfl) rfl (hb hby dU5_1) (by decide) (W := 0) (by show 2 * 0 + _ ≤ _; exact Nat.le_of_eq rfl) (by decide)
  obtain ⟨T2, h2, X2, e2, W2, st2⟩ := putF X1 hx hZ hown (host := "") (Or.inl (hw _ (List.mem_of_getElem? (i := 55) rfl))) Via.refl e1 F1 E1 (Or.inr ⟨(hw _ (List.mem_of_getElem? (i := 56) rfl)), rfl, hnm⟩) (hw _ (List.mem_of_getElem? (i := 1) rfl)) (ty := (.object "com/example/traceloom/traceloom/discovery/PrefixStates")) (by decide) rfl rfl (g := (mkF m 6 #[.val (.ref a1), .val (.ref a2), .val (.int p3), .val (.int p4)] [(.ref a2), (.ref a1)])) rfl rfl (hb hby dU5_6)
  have Fw2 := F1.same W2
  have f3 := E1.wr W2
  have f4 := F2.other W2 (Or.inr (slot_ne (Or.inr (hw _ (List.mem_of_getElem? (i := 58) rfl))) (Or.inr (hw _ (List.mem_of_getElem? (i := 56) rfl))) (by decide) (t := .int) (t' := (.object "com/example/traceloom/traceloom/discovery/PrefixStates")) (by decide) (by decide)))
  have f5 := F3.other W2 (Or.inr (slot_ne (Or.inr (hw _ (List.mem_of_getElem? (i := 60) rfl))) (Or.inr (hw _ (List.mem_of_getElem? (i := 56) rfl))) (by decide) (t := .int) (t' := (.object "com/example/traceloom/traceloom/discovery/PrefixStates")) (by decide) (by decide)))
  have f6 := F4.other W2 (Or.inr (slot_ne (Or.inl (hw _ (List.mem_of_getElem? (i := 67) rfl))) (Or.inr (hw _ (List.mem_of_getElem? (i := 56) rfl))) (by decide) (t := .int) (t' := (.object "com/example/traceloom/traceloom/discovery/PrefixStates")) (by decide) (by decide)))
  have f7 := F5.other W2 (Or.inr (slot_ne (Or.inl (hw _ (List.mem_of_getElem? (i := 83) rfl))) (Or.inr (hw _ (List.mem_of_getElem? (i := 56) rfl))) (by decide) (t := .int) (t' := (.object "com/example/traceloom/traceloom/discovery/PrefixStates")) (by decide) (by decide)))
  have f8 := F6.other W2 (Or.inr (slot_ne (Or.inl (hw _ (List.mem_of_getElem? (i := 69) rfl))) (Or.inr (hw _ (List.mem_of_getElem? (i := 56) rfl))) (by decide) (t := (.array .int)) (t' := (.object "com/example/traceloom/traceloom/discovery/PrefixStates")) (by decide) (by decide)))
  have f9 := F7.other W2 (Or.inr (slot_ne (Or.inl (hw _ (List.mem_of_getElem? (i := 71) rfl))) (Or.inr (hw _ (List.mem_of_getElem? (i := 56) rfl))) (by decide) (t := (.array .int)) (t' := (.object "com/example/traceloom/traceloom/discovery/PrefixStates")) (by decide) (by decide)))
  have f10 := F8.other W2 (Or.inr (slot_ne (Or.inl (hw _ (List.mem_of_getElem? (i := 73) rfl))) (Or.inr (hw _ (List.mem_of_getElem? (i := 56) rfl))) (by decide) (t := (.array .int)) (t' := (.object "com/example/traceloom/traceloom/discovery/PrefixStates")) (by decide) (by decide)))
  have f11 := F9.other W2 (Or.inr (slot_ne (Or.inl (hw _ (List.mem_of_getElem? (i := 76) rfl))) (Or.inr (hw _ (List.mem_of_getElem? (i := 56) rfl))) (by decide) (t := (.array .long)) (t' := (.object "com/example/traceloom/traceloom/discovery/PrefixStates")) (by decide) (by decide)))
  have f12 := F10.other W2 (Or.inr (slot_ne (Or.inl (hw _ (List.mem_of_getElem? (i := 79) rfl))) (Or.inr (hw _ (List.mem_of_getElem? (i := 56) rfl))) (by decide) (t := (.array .boolean)) (t' := (.object "com/example/traceloom/traceloom/discovery/PrefixStates")) (by decide) (by decide)))
  have f13 := F11.other W2 (Or.inr (slot_ne (Or.inl (hw _ (List.mem_of_getElem? (i := 81) rfl))) (Or.inr (hw _ (List.mem_of_getElem? (i := 56) rfl))) (by decide) (t := (.array .long)) (t' := (.object "com/example/traceloom/traceloom/discovery/PrefixStates")) (by decide) (by decide)))
  have N2 := Fr.snoc X2 N0 g1
  have K2 := (Keep.refl h0 [a1]).wr W2 (Or.inl (List.mem_of_getElem? (i := 0) rfl))
  have Z2 : n0 ≤ h2.size := Nat.le_trans Z0 (Keep.of_wr W2).1
  obtain ⟨T14, h14, X14, e14, W14, st14⟩ := putF X2 hx hZ hown (host := "") (Or.inl (hw _ (List.mem_of_getElem? (i := 57) rfl))) Via.refl e2 f4 f3 (Or.inr ⟨(hw _ (List.mem_of_getElem? (i := 58) rfl)), rfl, hnm⟩) (hw _ (List.mem_of_getElem? (i := 1) rfl)) (ty := .int) (by decide) rfl rfl (g := (mkF m 11 #[.val (.ref a1), .val (.ref a2), .val (.int p3), .val (.int p4)] [(.int p3), (.ref a1)])) rfl rfl (hb hby dU5_11)
  have Fw14 := f4.same W14
  have f15 := f3.wr W14
  have f16 := Fw2.other W14 (Or.inr (slot_ne (Or.inr (hw _ (List.mem_of_getElem? (i := 56) rfl))) (Or.inr (hw _ (List.mem_of_getElem? (i := 58) rfl))) (by decide) (t := (.object "com/example/traceloom/traceloom/discovery/PrefixStates")) (t' := .int) (by decide) (by decide)))
  have f17 := f5.other W14 (Or.inr (slot_ne (Or.inr (hw _ (List.mem_of_getElem? (i := 60) rfl))) (Or.inr (hw _ (List.mem_of_getElem? (i := 58) rfl))) (by decide) (t := .int) (t' := .int) (by decide) (by decide)))
  have f18 := f6.other W14 (Or.inr (slot_ne (Or.inl (hw _ (List.mem_of_getElem? (i := 67) rfl))) (Or.inr (hw _ (List.mem_of_getElem? (i := 58) rfl))) (by decide) (t := .int) (t' := .int) (by decide) (by decide)))
  have f19 := f7.other W14 (Or.inr (slot_ne (Or.inl (hw _ (List.mem_of_getElem? (i := 83) rfl))) (Or.inr (hw _ (List.mem_of_getElem? (i := 58) rfl))) (by decide) (t := .int) (t' := .int) (by decide) (by decide)))
  have f20 := f8.other W14 (Or.inr (slot_ne (Or.inl (hw _ (List.mem_of_getElem? (i := 69) rfl))) (Or.inr (hw _ (List.mem_of_getElem? (i := 58) rfl))) (by decide) (t := (.array .int)) (t' := .int) (by decide) (by decide)))
  have f21 := f9.other W14 (Or.inr (slot_ne (Or.inl (hw _ (List.mem_of_getElem? (i := 71) rfl))) (Or.inr (hw _ (List.mem_of_getElem? (i := 58) rfl))) (by decide) (t := (.array .int)) (t' := .int) (by decide) (by decide)))
  have f22 := f10.other W14 (Or.inr (slot_ne (Or.inl (hw _ (List.mem_of_getElem? (i := 73) rfl))) (Or.inr (hw _ (List.mem_of_getElem? (i := 58) rfl))) (by decide) (t := (.array .int)) (t' := .int) (by decide) (by decide)))
  have f23 := f11.other W14 (Or.inr (slot_ne (Or.inl (hw _ (List.mem_of_getElem? (i := 76) rfl))) (Or.inr (hw _ (List.mem_of_getElem? (i := 58) rfl))) (by decide) (t := (.array .long)) (t' := .int) (by decide) (by decide)))
  have f24 := f12.other W14 (Or.inr (slot_ne (Or.inl (hw _ (List.mem_of_getElem? (i := 79) rfl))) (Or.inr (hw _ (List.mem_of_getElem? (i := 58) rfl))) (by decide) (t := (.array .boolean)) (t' := .int) (by decide) (by decide)))
  have f25 := f13.other W14 (Or.inr (slot_ne (Or.inl (hw _ (List.mem_of_getElem? (i := 81) rfl))) (Or.inr (hw _ (List.mem_of_getElem? (i := 58) rfl))) (by decide) (t := (.array .long)) (t' := .int) (by decide) (by decide)))
  have N14 := Fr.snoc X14 N2 g1
  have K14 := K2.wr W14 (Or.inl (List.mem_of_getElem? (i := 0) rfl))
  have Z14 : n0 ≤ h14.size := Nat.le_trans Z2 (Keep.of_wr W14).1
  obtain ⟨T26, h26, X26, e26, W26, st26⟩ := putF X14 hx hZ hown (host := "") (Or.inl (hw _ (List.mem_of_getElem? (i := 59) rfl))) Via.refl e14 f17 f15 (Or.inr ⟨(hw _ (List.mem_of_getElem? (i := 60) rfl)), rfl, hnm⟩) (hw _ (List.mem_of_getElem? (i := 1) rfl)) (ty := .int) (by decide) rfl rfl (g := (mkF m 16 #[.val (.ref a1), .val (.ref a2), .val (.int p3), .val (.int p4)] [(.int p4), (.ref a1)])) rfl rfl (hb hby dU5_16)
  have Fw26 := f17.same W26
  have f27 := f15.wr W26
  have f28 := f16.other W26 (Or.inr (slot_ne (Or.inr (hw _ (List.mem_of_getElem? (i := 56) rfl))) (Or.inr (hw _ (List.mem_of_getElem? (i := 60) rfl))) (by decide) (t := (.object "com/example/traceloom/traceloom/discovery/PrefixStates")) (t' := .int) (by decide) (by decide)))
  have f29 := Fw14.other W26 (Or.inr (slot_ne (Or.inr (hw _ (List.mem_of_getElem? (i := 58) rfl))) (Or.inr (hw _ (List.mem_of_getElem? (i := 60) rfl))) (by decide) (t := .int) (t' := .int) (by decide) (by decide)))
  have f30 := f18.other W26 (Or.inr (slot_ne (Or.inl (hw _ (List.mem_of_getElem? (i := 67) rfl))) (Or.inr (hw _ (List.mem_of_getElem? (i := 60) rfl))) (by decide) (t := .int) (t' := .int) (by decide) (by decide)))
  have f31 := f19.other W26 (Or.inr (slot_ne (Or.inl (hw _ (List.mem_of_getElem? (i := 83) rfl))) (Or.inr (hw _ (List.mem_of_getElem? (i := 60) rfl))) (by decide) (t := .int) (t' := .int) (by decide) (by decide)))
  have f32 := f20.other W26 (Or.inr (slot_ne (Or.inl (hw _ (List.mem_of_getElem? (i := 69) rfl))) (Or.inr (hw _ (List.mem_of_getElem? (i := 60) rfl))) (by decide) (t := (.array .int)) (t' := .int) (by decide) (by decide)))
  have f33 := f21.other W26 (Or.inr (slot_ne (Or.inl (hw _ (List.mem_of_getElem? (i := 71) rfl))) (Or.inr (hw _ (List.mem_of_getElem? (i := 60) rfl))) (by decide) (t := (.array .int)) (t' := .int) (by decide) (by decide)))
  have f34 := f22.other W26 (Or.inr (slot_ne (Or.inl (hw _ (List.mem_of_getElem? (i := 73) rfl))) (Or.inr (hw _ (List.mem_of_getElem? (i := 60) rfl))) (by decide) (t := (.array .int)) (t' := .int) (by decide) (by decide)))
  have f35 := f23.other W26 (Or.inr (slot_ne (Or.inl (hw _ (List.mem_of_getElem? (i := 76) rfl))) (Or.inr (hw _ (List.mem_of_getElem? (i := 60) rfl))) (by decide) (t := (.array .long)) (t' := .int) (by decide) (by decide)))
  have f36 := f24.other W26 (Or.inr (slot_ne (Or.inl (hw _ (List.mem_of_getElem? (i := 79) rfl))) (Or.inr (hw _ (List.mem_of_getElem? (i := 60) rfl))) (by decide) (t := (.array .boolean)) (t' := .int) (by decide) (by decide)))
  have f37 := f25.other W26 (Or.inr (slot_ne (Or.inl (hw _ (List.mem_of_getElem? (i := 81) rfl))) (Or.inr (hw _ (List.mem_of_getElem? (i := 60) rfl))) (by decide) (t := (.array .long)) (t' := .int) (by decide) (by decide)))
  have N26 := Fr.snoc X26 N14 g1
  have K26 := K14.wr W26 (Or.inl (List.mem_of_getElem? (i := 0) rfl))
  have Z26 : n0 ≤ h26.size := Nat.le_trans Z14 (Keep.of_wr W26).1
  have pre38 : ∀ t, Steps p.tables e below (T26.setTop (mkF m 19 #[.val (.ref a1), .val (.ref a2), .val (.int p3), .val (.int p4)] [])) t → Steps p.tables e below (s₁.setTop (entryFrame m #[(.ref a1), (.ref a2), (.int p3), (.int p4)] 4)) t := fun t_ k_ => pre0 t_ (by
      refine XS.aloadN X0.here hx rfl (hb hby dU5_0) rfl rfl ?_
      show Steps p.tables e below (s₁.setTop (mkF m 1 #[.val (.ref a1), .val (.ref a2), .val (.int p3), .val (.int p4)] [(.ref a1)])) _
      refine st1 _ ?_
      show Steps p.tables e below (T1.setTop (mkF m 4 #[.val (.ref a1), .val (.ref a2), .val (.int p3), .val (.int p4)] [])) _
      refine XS.aloadN X1.here hx rfl (hb hby dU5_4) rfl rfl ?_
      show Steps p.tables e below (T1.setTop (mkF m 5 #[.val (.ref a1), .val (.ref a2), .val (.int p3), .val (.int p4)] [(.ref a1)])) _
      refine XS.aloadN X1.here hx rfl (hb hby dU5_5) rfl rfl ?_
      show Steps p.tables e below (T1.setTop (mkF m 6 #[.val (.ref a1), .val (.ref a2), .val (.int p3), .val (.int p4)] [(.ref a2), (.ref a1)])) _
      refine st2 _ ?_
      show Steps p.tables e below (T2.setTop (mkF m 9 #[.val (.ref a1), .val (.ref a2), .val (.int p3), .val (.int p4)] [])) _
      refine XS.aloadN X2.here hx rfl (hb hby dU5_9) rfl rfl ?_
      show Steps p.tables e below (T2.setTop (mkF m 10 #[.val (.ref a1), .val (.ref a2), .val (.int p3), .val (.int p4)] [(.ref a1)])) _
      refine XS.iloadN X2.here hx rfl (hb hby dU5_10) rfl ?_
      show Steps p.tables e below (T2.setTop (mkF m 11 #[.val (.ref a1), .val (.ref a2), .val (.int p3), .val (.int p4)] [(.int p3), (.ref a1)])) _
      refine st14 _ ?_
      show Steps p.tables e below (T14.setTop (mkF m 14 #[.val (.ref a1), .val (.ref a2), .val (.int p3), .val (.int p4)] [])) _
      refine XS.aloadN X14.here hx rfl (hb hby dU5_14) rfl rfl ?_
      show Steps p.tables e below (T14.setTop (mkF m 15 #[.val (.ref a1), .val (.ref a2), .val (.int p3), .val (.int p4)] [(.ref a1)])) _
      refine XS.iloadN X14.here hx rfl (hb hby dU5_15) rfl ?_
      show Steps p.tables e below (T14.setTop (mkF m 16 #[.val (.ref a1), .val (.ref a2), .val (.int p3), .val (.int p4)] [(.int p4), (.ref a1)])) _
      refine st26 _ ?_
      show Steps p.tables e below (T26.setTop (mkF m 19 #[.val (.ref a1), .val (.ref a2), .val (.int p3), .val (.int p4)] [])) _
      exact k_)
  obtain ⟨fs, hr, hrun, hended, hW, hsame⟩ := X26.leave (v := none) (fun _ => rfl)
  refine ⟨_, _, pre38 _ ?_, hrun, hended, _, _, rfl, ?_, ⟨_, rfl⟩, hW, hsame.mono (by decide) (by decide)⟩
  · exact X26.returnOut hx Bd.returns (hb hby dU5_19) hr
  · show QU5 Z a1 a2 p3 p4 h0 n0 _ T26.heap _
    rw [e26]
    exact ⟨rfl, N26, K26, f29, Fw26, f30, f31, f32, f33, f34, f35, f36, f37⟩
theorem dD1_0 : decode prog_18_method_7_code 0 = .ok (.aload_n 0, 1) := by decide +kernel
theorem dD1_1 : decode prog_18_method_7_code 1 = .ok (.getfield 50, 3) := by decide +kernel
theorem dD1_4 : decode prog_18_method_7_code 4 = .ok (.aload_n 0, 1) := by decide +kernel
theorem dD1_5 : decode prog_18_method_7_code 5 = .ok (.getfield 13, 3) := by decide +kernel
theorem dD1_8 : decode prog_18_method_7_code 8 = .ok (.if_icmp .ne 4, 3) := by decide +kernel
theorem dD1_12 : decode prog_18_method_7_code 12 = .ok (.aload_n 0, 1) := by decide +kernel
theorem dD1_13 : decode prog_18_method_7_code 13 = .ok (.getfield 20, 3) := by decide +kernel
theorem dD1_16 : decode prog_18_method_7_code 16 = .ok (.ifnonnull 68, 3) := by decide +kernel
theorem dD1_19 : decode prog_18_method_7_code 19 = .ok (.aload_n 0, 1) := by decide +kernel
theorem dD1_20 : decode prog_18_method_7_code 20 = .ok (.aload_n 0, 1) := by decide +kernel
theorem dD1_21 : decode prog_18_method_7_code 21 = .ok (.getfield 13, 3) := by decide +kernel
theorem dD1_24 : decode prog_18_method_7_code 24 = .ok (.newarray .int, 2) := by decide +kernel
theorem dD1_26 : decode prog_18_method_7_code 26 = .ok (.putfield 20, 3) := by decide +kernel
theorem dD1_29 : decode prog_18_method_7_code 29 = .ok (.aload_n 0, 1) := by decide +kernel
theorem dD1_30 : decode prog_18_method_7_code 30 = .ok (.aload_n 0, 1) := by decide +kernel
theorem dD1_31 : decode prog_18_method_7_code 31 = .ok (.getfield 13, 3) := by decide +kernel
theorem dD1_34 : decode prog_18_method_7_code 34 = .ok (.newarray .int, 2) := by decide +kernel
theorem dD1_36 : decode prog_18_method_7_code 36 = .ok (.putfield 29, 3) := by decide +kernel
theorem dD1_39 : decode prog_18_method_7_code 39 = .ok (.aload_n 0, 1) := by decide +kernel
theorem dD1_40 : decode prog_18_method_7_code 40 = .ok (.aload_n 0, 1) := by decide +kernel
theorem dD1_41 : decode prog_18_method_7_code 41 = .ok (.getfield 13, 3) := by decide +kernel
theorem dD1_44 : decode prog_18_method_7_code 44 = .ok (.newarray .int, 2) := by decide +kernel
theorem dD1_46 : decode prog_18_method_7_code 46 = .ok (.putfield 32, 3) := by decide +kernel
theorem dD1_49 : decode prog_18_method_7_code 49 = .ok (.aload_n 0, 1) := by decide +kernel
theorem dD1_50 : decode prog_18_method_7_code 50 = .ok (.aload_n 0, 1) := by decide +kernel
theorem dD1_51 : decode prog_18_method_7_code 51 = .ok (.getfield 17, 3) := by decide +kernel
theorem dD1_54 : decode prog_18_method_7_code 54 = .ok (.aload_n 0, 1) := by decide +kernel
theorem dD1_55 : decode prog_18_method_7_code 55 = .ok (.getfield 13, 3) := by decide +kernel
theorem dD1_58 : decode prog_18_method_7_code 58 = .ok (.imul, 1) := by decide +kernel
theorem dD1_59 : decode prog_18_method_7_code 59 = .ok (.newarray .long, 2) := by decide +kernel
theorem dD1_61 : decode prog_18_method_7_code 61 = .ok (.putfield 35, 3) := by decide +kernel
theorem dD1_64 : decode prog_18_method_7_code 64 = .ok (.aload_n 0, 1) := by decide +kernel
theorem dD1_65 : decode prog_18_method_7_code 65 = .ok (.aload_n 0, 1) := by decide +kernel
theorem dD1_66 : decode prog_18_method_7_code 66 = .ok (.getfield 13, 3) := by decide +kernel
theorem dD1_69 : decode prog_18_method_7_code 69 = .ok (.newarray .boolean, 2) := by decide +kernel
theorem dD1_71 : decode prog_18_method_7_code 71 = .ok (.putfield 41, 3) := by decide +kernel
theorem dD1_74 : decode prog_18_method_7_code 74 = .ok (.aload_n 0, 1) := by decide +kernel
theorem dD1_75 : decode prog_18_method_7_code 75 = .ok (.aload_n 0, 1) := by decide +kernel
theorem dD1_76 : decode prog_18_method_7_code 76 = .ok (.getfield 13, 3) := by decide +kernel
theorem dD1_79 : decode prog_18_method_7_code 79 = .ok (.newarray .long, 2) := by decide +kernel
theorem dD1_81 : decode prog_18_method_7_code 81 = .ok (.putfield 47, 3) := by decide +kernel
theorem dD1_84 : decode prog_18_method_7_code 84 = .ok (.aload_n 0, 1) := by decide +kernel
theorem dD1_85 : decode prog_18_method_7_code 85 = .ok (.getfield 20, 3) := by decide +kernel
theorem dD1_88 : decode prog_18_method_7_code 88 = .ok (.aload_n 0, 1) := by decide +kernel
theorem dD1_89 : decode prog_18_method_7_code 89 = .ok (.getfield 50, 3) := by decide +kernel
theorem dD1_92 : decode prog_18_method_7_code 92 = .ok (.iload_n 1, 1) := by decide +kernel
theorem dD1_93 : decode prog_18_method_7_code 93 = .ok (.iastore, 1) := by decide +kernel
theorem dD1_94 : decode prog_18_method_7_code 94 = .ok (.aload_n 0, 1) := by decide +kernel
theorem dD1_95 : decode prog_18_method_7_code 95 = .ok (.getfield 29, 3) := by decide +kernel
theorem dD1_98 : decode prog_18_method_7_code 98 = .ok (.aload_n 0, 1) := by decide +kernel
theorem dD1_99 : decode prog_18_method_7_code 99 = .ok (.getfield 50, 3) := by decide +kernel
theorem dD1_102 : decode prog_18_method_7_code 102 = .ok (.iload_n 2, 1) := by decide +kernel
theorem dD1_103 : decode prog_18_method_7_code 103 = .ok (.iastore, 1) := by decide +kernel
theorem dD1_104 : decode prog_18_method_7_code 104 = .ok (.aload_n 0, 1) := by decide +kernel
theorem dD1_105 : decode prog_18_method_7_code 105 = .ok (.getfield 32, 3) := by decide +kernel
theorem dD1_108 : decode prog_18_method_7_code 108 = .ok (.aload_n 0, 1) := by decide +kernel
theorem dD1_109 : decode prog_18_method_7_code 109 = .ok (.getfield 50, 3) := by decide +kernel
theorem dD1_112 : decode prog_18_method_7_code 112 = .ok (.iload_n 3, 1) := by decide +kernel
theorem dD1_113 : decode prog_18_method_7_code 113 = .ok (.iastore, 1) := by decide +kernel
theorem dD1_114 : decode prog_18_method_7_code 114 = .ok (.aload_n 0, 1) := by decide +kernel
theorem dD1_115 : decode prog_18_method_7_code 115 = .ok (.getfield 41, 3) := by decide +kernel
theorem dD1_118 : decode prog_18_method_7_code 118 = .ok (.aload_n 0, 1) := by decide +kernel
theorem dD1_119 : decode prog_18_method_7_code 119 = .ok (.getfield 50, 3) := by decide +kernel
theorem dD1_122 : decode prog_18_method_7_code 122 = .ok (.iconst 0, 1) := by decide +kernel
theorem dD1_123 : decode prog_18_method_7_code 123 = .ok (.bastore, 1) := by decide +kernel
theorem dD1_124 : decode prog_18_method_7_code 124 = .ok (.aload_n 0, 1) := by decide +kernel
theorem dD1_125 : decode prog_18_method_7_code 125 = .ok (.dup, 1) := by decide +kernel
theorem dD1_126 : decode prog_18_method_7_code 126 = .ok (.getfield 50, 3) := by decide +kernel
theorem dD1_129 : decode prog_18_method_7_code 129 = .ok (.iconst 1, 1) := by decide +kernel
theorem dD1_130 : decode prog_18_method_7_code 130 = .ok (.iadd, 1) := by decide +kernel
theorem dD1_131 : decode prog_18_method_7_code 131 = .ok (.putfield 50, 3) := by decide +kernel
theorem dD1_134 : decode prog_18_method_7_code 134 = .ok (.aload_n 0, 1) := by decide +kernel
theorem dD1_135 : decode prog_18_method_7_code 135 = .ok (.dup, 1) := by decide +kernel
theorem dD1_136 : decode prog_18_method_7_code 136 = .ok (.getfield 56, 3) := by decide +kernel
theorem dD1_139 : decode prog_18_method_7_code 139 = .ok (.iconst 1, 1) := by decide +kernel
theorem dD1_140 : decode prog_18_method_7_code 140 = .ok (.iadd, 1) := by decide +kernel
theorem dD1_141 : decode prog_18_method_7_code 141 = .ok (.putfield 56, 3) := by decide +kernel
theorem dD1_144 : decode prog_18_method_7_code 144 = .ok (.return_, 1) := by decide +kernel
theorem pnD1 : plainName "com/example/traceloom/traceloom/discovery/Candidates" = true := by first | (simp [plainName, overriddenIn]; done) | decide +kernel
theorem efD1 (m : MethodId) (a1 : Addr) (p2 : Int32) (p3 : Int32) (p4 : Int32) : entryFrame m #[(.ref a1), (.int p2), (.int p3), (.int p4)] 4 = mkF m 0 #[.val (.ref a1), .val (.int p2), .val (.int p3), .val (.int p4)] [] := by first | (simp [entryFrame, mkF, argsToLocals, Value.category]; done) | rfl
def QD1 (Z : State) (a1 : Addr) (p2 p3 p4 : Int32) (ac : Int32) (ak : Nat) (h0 : Heap) (n0 : Nat) (v : Option Value) (h : Heap) (L : List Loc) : Prop := v = none ∧ Fr n0 L ∧ Keep h0 h [a1] ∧ ∃ si fo po tk : Addr, Fld Z h a1 "com/example/traceloom/traceloom/discovery/Candidates" "capacity" "I" (.int (2 : Int32)) ∧ Fld Z h a1 "com/example/traceloom/traceloom/discovery/Candidates" "size" "I" (.int (1 : Int32)) ∧ Fld Z h a1 "com/example/traceloom/traceloom/discovery/Candidates" "left" "I" (.int (1 : Int32)) ∧ Fld Z h a1 "com/example/traceloom/traceloom/discovery/Candidates" "stateIndexes" "[I" (.ref si) ∧ Fld Z h a1 "com/example/traceloom/traceloom/discovery/Candidates" "followers" "[I" (.ref fo) ∧ Fld Z h a1 "com/example/traceloom/traceloom/discovery/Candidates" "positions" "[I" (.ref po) ∧ Fld Z h a1 "com/example/traceloom/traceloom/discovery/Candidates" "taken" "[Z" (.ref tk) ∧ (∃ f, OArr Z h si .int 2 f) ∧ (∃ f, OArr Z h fo .int 2 f) ∧ (∃ f, OArr Z h po .int 2 f) ∧ OArr Z h tk .boolean 2 (oUpd (fun _ => .int (0 : Int32)) 0 (.int ((0 : Int32) &&& 1))) ∧ n0 ≤ si ∧ n0 ≤ fo ∧ n0 ≤ po ∧ n0 ≤ tk ∧ a1 ≠ si ∧ a1 ≠ fo ∧ a1 ≠ po ∧ a1 ≠ tk ∧ si ≠ fo ∧ si ≠ po ∧ si ≠ tk ∧ fo ≠ po ∧ fo ≠ tk ∧ po ≠ tk ∧ h0.size ≤ si ∧ h0.size ≤ fo ∧ h0.size ≤ po ∧ h0.size ≤ tk
set_option maxRecDepth 65536 in
set_option maxHeartbeats 40000000 in
theorem rmD1 (l : Launch) (Z : State) (a0 : Array Value) (hw : ∀ d ∈ tables_1, d.before a0 Z = true) (ws : List Jvm.Cond) (a1 : Addr) (p2 p3 p4 : Int32) (ac : Int32) (ak : Nat) (h0 : Heap) (n0 : Nat) (Z0 : n0 ≤ h0.size) (E1 : Exa Z h0 a1 "com/example/traceloom/traceloom/discovery/Candidates") (F1 : Fld Z h0 a1 "com/example/traceloom/traceloom/discovery/Candidates" "capacity" "I" (.int (2 : Int32))) (F2 : Fld Z h0 a1 "com/example/traceloom/traceloom/discovery/Candidates" "activityCount" "I" (.int ac)) (F3 : Fld Z h0 a1 "com/example/traceloom/traceloom/discovery/Candidates" "size" "I" (.int (0 : Int32))) (F4 : Fld Z h0 a1 "com/example/traceloom/traceloom/discovery/Candidates" "left" "I" (.int (0 : Int32))) (F5 : Fld Z h0 a1 "com/example/traceloom/traceloom/discovery/Candidates" "stateIndexes" "[I" .null) (F6 : Fld Z h0 a1 "com/example/traceloom/traceloom/discovery/Candidates" "followers" "[I" .null) (F7 : Fld Z h0 a1 "com/example/traceloom/traceloom/discovery/Candidates" "positions" "[I" .null) (F8 : Fld Z h0 a1 "com/example/traceloom/traceloom/discovery/Candidates" "counts" "[J" .null) (F9 : Fld Z h0 a1 "com/example/traceloom/traceloom/discovery/Candidates" "taken" "[Z" .null) (F10 : Fld Z h0 a1 "com/example/traceloom/traceloom/discovery/Candidates" "holds" "[J" .null) (g1 : n0 ≤ a1) (hac : ac.toInt = (ak : Int)) (hak : ak ≤ 3) :
    MetFree l (⟨"com/example/traceloom/traceloom/discovery/Candidates", "add", "(III)V"⟩ : MethodName) (head1 (Jvm.Cond.code (⟨"com/example/traceloom/traceloom/discovery/Candidates", "add", "(III)V"⟩ : MethodName) prog_18_method_7_code 4 none :: ws) ({ frames := 0, cells := 6, slots := 16, locals := 0 } : Room)) (fun a U => a = #[(.ref a1), (.int p2), (.int p3), (.int p4)] ∧ Z.Warmed39 U.vm ∧ U.heap = h0) (fun _ _ _ _ _ => True) (fun _ U o U' => ∃ v L, o = .returned v ∧ QD1 Z a1 p2 p3 p4 ac ak h0 n0 v U'.heap L ∧ FrameEnd U o U' L ({ frames := 0, cells := 6, slots := 16, locals := 0 } : Room).cells ({ frames := 0, cells := 6, slots := 16, locals := 0 } : Room).slots) := by
  refine MetFree.of_bodySF (plainFor_of_name pnD1) hisR ?_
  intro p e s m args below meth c s₁ Bd hml0 hP hK
  obtain ⟨rfl, hZ, hh⟩ := hP
  have hx := Bd.exec
  have hby := Bd.bytes
  have hml : c.maxLocals = 4 := hml0
  have hown : s.vm.findClass "com/example/traceloom/traceloom/discovery/Candidates" = some m.cls := findClass_of_methodNamed Bd.named
  have hnm := (name_of_methodNamed Bd.named Bd.method).1
  have X0 : Stand p l e ({ frames := 0, cells := 6, slots := 16, locals := 0 } : Room) s m #[(.ref a1), (.int p2), (.int p3), (.int p4)] below meth c s₁ [] 0 0 := Stand.of_body Bd
  have e0 : s₁.heap = h0 := by rw [← hh, Bd.state]; rfl
  have N0 := Fr.nil n0
  have pre0 : ∀ t, Steps p.tables e below (s₁.setTop (mkF m 0 #[.val (.ref a1), .val (.int p2), .val (.int p3), .val (.int p4)] [])) t → Steps p.tables e below (s₁.setTop (entryFrame m #[(.ref a1), (.int p2), (.int p3), (.int p4)] 4)) t := fun t k => castTop (efD1 m a1 p2 p3 p4) k
  obtain ⟨T1, X1, e1, st1⟩ := getF X0 hx hZ hown (host := "") (Or.inl (hw _ (List.mem_of_getElem? (i := 66) rfl))) Via.refl e0 F3 (g := (mkF m 1 #[.val (.ref a1), .val (.int p2), .val (.int p3), .val (.int p4)] [(.ref a1)])) rfl rfl (hb hby dD1_1)
  obtain ⟨T2, X2, e2, st2⟩ := getF X1 hx hZ hown (host := "") (Or.inl (hw _ (List.mem_of_getElem? (i := 57) rfl))) Via.refl e1 F1 (g := (mkF m 5 #[.val (.ref a1), .val (.int p2), .val (.int p3), .val (.int p4)] [(.ref a1), (.int (0 : Int32))])) rfl rfl (hb hby dD1_5)
  obtain ⟨T3, X3, e3, st3⟩ := getF X2 hx hZ hown (host := "") (Or.inl (hw _ (List.mem_of_getElem? (i := 68) rfl))) Via.refl e2 F5 (g := (mkF m 13 #[.val (.ref a1), .val (.int p2), .val (.int p3), .val (.int p4)] [(.ref a1)])) rfl rfl (hb hby dD1_13)
  obtain ⟨T4, X4, e4, st4⟩ := getF X3 hx hZ hown (host := "") (Or.inl (hw _ (List.mem_of_getElem? (i := 57) rfl))) Via.refl e3 F1 (g := (mkF m 21 #[.val (.ref a1), .val (.int p2), .val (.int p3), .val (.int p4)] [(.ref a1), (.ref a1)])) rfl rfl (hb hby dD1_21)
  obtain ⟨T5, h5, X5, e5, E5, A5, st5⟩ := oNew X4 hx hZ (hw _ (List.mem_of_getElem? (i := 38) rfl)) e4 (g := (mkF m 24 #[.val (.ref a1), .val (.int p2), .val (.int p3), .val (.int p4)] [(.int (2 : Int32)), (.ref a1)])) rfl (hb hby dD1_24) rfl (k := 2) (cap := 2) rfl (by decide) (by decide) (by decide) (by decide)
  obtain ⟨si, g5⟩ : ∃ z, z = h0.size := ⟨_, rfl⟩
  rw [← g5] at A5 st5
  have ne6 : a1 ≠ si := Nat.ne_of_lt (Nat.lt_of_lt_of_le E1.lt (Nat.le_of_eq g5.symm))
  have gg5 : n0 ≤ si := Nat.le_trans Z0 (Nat.le_of_eq g5.symm)
  have sz5 : h0.size ≤ si := Nat.le_trans (Keep.refl h0 [a1]).1 (Nat.le_of_eq g5.symm)
  have f7 := E1.ext E5
  have f8 := F1.ext E5
  have f9 := F2.ext E5
  have f10 := F3.ext E5
  have f11 := F4.ext E5
  have f12 := F5.ext E5
  have f13 := F6.ext E5
  have f14 := F7.ext E5
  have f15 := F8.ext E5
  have f16 := F9.ext E5
  have f17 := F10.ext E5
  have Z5 : n0 ≤ h5.size := Nat.le_trans Z0 E5.1
  have K5 := (Keep.refl h0 [a1]).ext E5
  have B5 : OArr Z h5 si .int 2 (fun _ => .int (0 : Int32)) := A5
  obtain ⟨T18, h18, X18, e18, W18, st18⟩ := putF X5 hx hZ hown (host := "") (Or.inl (hw _ (List.mem_of_getElem? (i := 68) rfl))) Via.refl e5 f12 f7 (Or.inl (hw _ (List.mem_of_getElem? (i := 69) rfl))) (hw _ (List.mem_of_getElem? (i := 1) rfl)) (ty := (.array .int)) (by decide) rfl rfl (g := (mkF m 26 #[.val (.ref a1), .val (.int p2), .val (.int p3), .val (.int p4)] [(.ref si), (.ref a1)])) rfl rfl (hb hby dD1_26)
  have Fw18 := f12.same W18
  have f19 := f7.wr W18
  have f20 := f8.other W18 (Or.inr (slot_ne (Or.inr (hw _ (List.mem_of_getElem? (i := 58) rfl))) (Or.inl (hw _ (List.mem_of_getElem? (i := 69) rfl))) (by decide) (t := .int) (t' := (.array .int)) (by decide) (by decide)))
  have f21 := f9.other W18 (Or.inr (slot_ne (Or.inr (hw _ (List.mem_of_getElem? (i := 60) rfl))) (Or.inl (hw _ (List.mem_of_getElem? (i := 69) rfl))) (by decide) (t := .int) (t' := (.array .int)) (by decide) (by decide)))
  have f22 := f10.other W18 (Or.inr (slot_ne (Or.inl (hw _ (List.mem_of_getElem? (i := 67) rfl))) (Or.inl (hw _ (List.mem_of_getElem? (i := 69) rfl))) (by decide) (t := .int) (t' := (.array .int)) (by decide) (by decide)))
  have f23 := f11.other W18 (Or.inr (slot_ne (Or.inl (hw _ (List.mem_of_getElem? (i := 83) rfl))) (Or.inl (hw _ (List.mem_of_getElem? (i := 69) rfl))) (by decide) (t := .int) (t' := (.array .int)) (by decide) (by decide)))
  have f24 := f13.other W18 (Or.inr (slot_ne (Or.inl (hw _ (List.mem_of_getElem? (i := 71) rfl))) (Or.inl (hw _ (List.mem_of_getElem? (i := 69) rfl))) (by decide) (t := (.array .int)) (t' := (.array .int)) (by decide) (by decide)))
  have f25 := f14.other W18 (Or.inr (slot_ne (Or.inl (hw _ (List.mem_of_getElem? (i := 73) rfl))) (Or.inl (hw _ (List.mem_of_getElem? (i := 69) rfl))) (by decide) (t := (.array .int)) (t' := (.array .int)) (by decide) (by decide)))
  have f26 := f15.other W18 (Or.inr (slot_ne (Or.inl (hw _ (List.mem_of_getElem? (i := 76) rfl))) (Or.inl (hw _ (List.mem_of_getElem? (i := 69) rfl))) (by decide) (t := (.array .long)) (t' := (.array .int)) (by decide) (by decide)))
  have f27 := f16.other W18 (Or.inr (slot_ne (Or.inl (hw _ (List.mem_of_getElem? (i := 79) rfl))) (Or.inl (hw _ (List.mem_of_getElem? (i := 69) rfl))) (by decide) (t := (.array .boolean)) (t' := (.array .int)) (by decide) (by decide)))
  have f28 := f17.other W18 (Or.inr (slot_ne (Or.inl (hw _ (List.mem_of_getElem? (i := 81) rfl))) (Or.inl (hw _ (List.mem_of_getElem? (i := 69) rfl))) (by decide) (t := (.array .long)) (t' := (.array .int)) (by decide) (by decide)))
  have f29 := B5.other W18 (Ne.symm ne6)
  have N18 := Fr.snoc X18 N0 g1
  have K18 := K5.wr W18 (Or.inl (List.mem_of_getElem? (i := 0) rfl))
  have Z18 : n0 ≤ h18.size := Nat.le_trans Z5 (Keep.of_wr W18).1
  obtain ⟨T30, X30, e30, st30⟩ := getF X18 hx hZ hown (host := "") (Or.inl (hw _ (List.mem_of_getElem? (i := 57) rfl))) Via.refl e18 f20 (g := (mkF m 31 #[.val (.ref a1), .val (.int p2), .val (.int p3), .val (.int p4)] [(.ref a1), (.ref a1)])) rfl rfl (hb hby dD1_31)
  obtain ⟨T31, h31, X31, e31, E31, A31, st31⟩ := oNew X30 hx hZ (hw _ (List.mem_of_getElem? (i := 38) rfl)) e30 (g := (mkF m 34 #[.val (.ref a1), .val (.int p2), .val (.int p3), .val (.int p4)] [(.int (2 : Int32)), (.ref a1)])) rfl (hb hby dD1_34) rfl (k := 2) (cap := 2) rfl (by decide) (by decide) (by decide) (by decide)
  obtain ⟨fo, g31⟩ : ∃ z, z = h18.size := ⟨_, rfl⟩
  rw [← g31] at A31 st31
  have ne32 : a1 ≠ fo := Nat.ne_of_lt (Nat.lt_of_lt_of_le f19.lt (Nat.le_of_eq g31.symm))
  have ne33 : si ≠ fo := Nat.ne_of_lt (Nat.lt_of_lt_of_le f29.lt (Nat.le_of_eq g31.symm))
  have gg31 : n0 ≤ fo := Nat.le_trans Z18 (Nat.le_of_eq g31.symm)
  have sz31 : h0.size ≤ fo := Nat.le_trans K18.1 (Nat.le_of_eq g31.symm)
  have f34 := f19.ext E31
  have f35 := f20.ext E31
  have f36 := f21.ext E31
  have f37 := f22.ext E31
  have f38 := f23.ext E31
  have f39 := Fw18.ext E31
  have f40 := f24.ext E31
  have f41 := f25.ext E31
  have f42 := f26.ext E31
  have f43 := f27.ext E31
  have f44 := f28.ext E31
  have f45 := f29.ext E31
  have Z31 : n0 ≤ h31.size := Nat.le_trans Z18 E31.1
  have K31 := K18.ext E31
  have B31 : OArr Z h31 fo .int 2 (fun _ => .int (0 : Int32)) := A31
  obtain ⟨T46, h46, X46, e46, W46, st46⟩ := putF X31 hx hZ hown (host := "") (Or.inl (hw _ (List.mem_of_getElem? (i := 70) rfl))) Via.refl e31 f40 f34 (Or.inl (hw _ (List.mem_of_getElem? (i := 71) rfl))) (hw _ (List.mem_of_getElem? (i := 1) rfl)) (ty := (.array .int)) (by decide) rfl rfl (g := (mkF m 36 #[.val (.ref a1), .val (.int p2), .val (.int p3), .val (.int p4)] [(.ref fo), (.ref a1)])) rfl rfl (hb hby dD1_36)
  have Fw46 := f40.same W46
  have f47 := f34.wr W46
  have f48 := f35.other W46 (Or.inr (slot_ne (Or.inr (hw _ (List.mem_of_getElem? (i := 58) rfl))) (Or.inl (hw _ (List.mem_of_getElem? (i := 71) rfl))) (by decide) (t := .int) (t' := (.array .int)) (by decide) (by decide)))
  have f49 := f36.other W46 (Or.inr (slot_ne (Or.inr (hw _ (List.mem_of_getElem? (i := 60) rfl))) (Or.inl (hw _ (List.mem_of_getElem? (i := 71) rfl))) (by decide) (t := .int) (t' := (.array .int)) (by decide) (by decide)))
  have f50 := f37.other W46 (Or.inr (slot_ne (Or.inl (hw _ (List.mem_of_getElem? (i := 67) rfl))) (Or.inl (hw _ (List.mem_of_getElem? (i := 71) rfl))) (by decide) (t := .int) (t' := (.array .int)) (by decide) (by decide)))
  have f51 := f38.other W46 (Or.inr (slot_ne (Or.inl (hw _ (List.mem_of_getElem? (i := 83) rfl))) (Or.inl (hw _ (List.mem_of_getElem? (i := 71) rfl))) (by decide) (t := .int) (t' := (.array .int)) (by decide) (by decide)))
  have f52 := f39.other W46 (Or.inr (slot_ne (Or.inl (hw _ (List.mem_of_getElem? (i := 69) rfl))) (Or.inl (hw _ (List.mem_of_getElem? (i := 71) rfl))) (by decide) (t := (.array .int)) (t' := (.array .int)) (by decide) (by decide)))
  have f53 := f41.other W46 (Or.inr (slot_ne (Or.inl (hw _ (List.mem_of_getElem? (i := 73) rfl))) (Or.inl (hw _ (List.mem_of_getElem? (i := 71) rfl))) (by decide) (t := (.array .int)) (t' := (.array .int)) (by decide) (by decide)))
  have f54 := f42.other W46 (Or.inr (slot_ne (Or.inl (hw _ (List.mem_of_getElem? (i := 76) rfl))) (Or.inl (hw _ (List.mem_of_getElem? (i := 71) rfl))) (by decide) (t := (.array .long)) (t' := (.array .int)) (by decide) (by decide)))
  have f55 := f43.other W46 (Or.inr (slot_ne (Or.inl (hw _ (List.mem_of_getElem? (i := 79) rfl))) (Or.inl (hw _ (List.mem_of_getElem? (i := 71) rfl))) (by decide) (t := (.array .boolean)) (t' := (.array .int)) (by decide) (by decide)))
  have f56 := f44.other W46 (Or.inr (slot_ne (Or.inl (hw _ (List.mem_of_getElem? (i := 81) rfl))) (Or.inl (hw _ (List.mem_of_getElem? (i := 71) rfl))) (by decide) (t := (.array .long)) (t' := (.array .int)) (by decide) (by decide)))
  have f57 := f45.other W46 (Ne.symm ne6)
  have f58 := B31.other W46 (Ne.symm ne32)
  have N46 := Fr.snoc X46 N18 g1
  have K46 := K31.wr W46 (Or.inl (List.mem_of_getElem? (i := 0) rfl))
  have Z46 : n0 ≤ h46.size := Nat.le_trans Z31 (Keep.of_wr W46).1
  obtain ⟨T59, X59, e59, st59⟩ := getF X46 hx hZ hown (host := "") (Or.inl (hw _ (List.mem_of_getElem? (i := 57) rfl))) Via.refl e46 f48 (g := (mkF m 41 #[.val (.ref a1), .val (.int p2), .val (.int p3), .val (.int p4)] [(.ref a1), (.ref a1)])) rfl rfl (hb hby dD1_41)
  obtain ⟨T60, h60, X60, e60, E60, A60, st60⟩ := oNew X59 hx hZ (hw _ (List.mem_of_getElem? (i := 38) rfl)) e59 (g := (mkF m 44 #[.val (.ref a1), .val (.int p2), .val (.int p3), .val (.int p4)] [(.int (2 : Int32)), (.ref a1)])) rfl (hb hby dD1_44) rfl (k := 2) (cap := 2) rfl (by decide) (by decide) (by decide) (by decide)
  obtain ⟨po, g60⟩ : ∃ z, z = h46.size := ⟨_, rfl⟩
  rw [← g60] at A60 st60
  have ne61 : a1 ≠ po := Nat.ne_of_lt (Nat.lt_of_lt_of_le f47.lt (Nat.le_of_eq g60.symm))
  have ne62 : si ≠ po := Nat.ne_of_lt (Nat.lt_of_lt_of_le f57.lt (Nat.le_of_eq g60.symm))
  have ne63 : fo ≠ po := Nat.ne_of_lt (Nat.lt_of_lt_of_le f58.lt (Nat.le_of_eq g60.symm))
  have gg60 : n0 ≤ po := Nat.le_trans Z46 (Nat.le_of_eq g60.symm)
  have sz60 : h0.size ≤ po := Nat.le_trans K46.1 (Nat.le_of_eq g60.symm)
  have f64 := f47.ext E60
  have f65 := f48.ext E60
  have f66 := f49.ext E60
  have f67 := f50.ext E60
  have f68 := f51.ext E60
  have f69 := f52.ext E60
  have f70 := Fw46.ext E60
  have f71 := f53.ext E60
  have f72 := f54.ext E60
  have f73 := f55.ext E60
  have f74 := f56.ext E60
  have f75 := f57.ext E60
  have f76 := f58.ext E60
  have Z60 : n0 ≤ h60.size := Nat.le_trans Z46 E60.1
  have K60 := K46.ext E60
  have B60 : OArr Z h60 po .int 2 (fun _ => .int (0 : Int32)) := A60
  obtain ⟨T77, h77, X77, e77, W77, st77⟩ := putF X60 hx hZ hown (host := "") (Or.inl (hw _ (List.mem_of_getElem? (i := 72) rfl))) Via.refl e60 f71 f64 (Or.inl (hw _ (List.mem_of_getElem? (i := 73) rfl))) (hw _ (List.mem_of_getElem? (i := 1) rfl)) (ty := (.array .int)) (by decide) rfl rfl (g := (mkF m 46 #[.val (.ref a1), .val (.int p2), .val (.int p3), .val (.int p4)] [(.ref po), (.ref a1)])) rfl rfl (hb hby dD1_46)
  have Fw77 := f71.same W77
  have f78 := f64.wr W77
  have f79 := f65.other W77 (Or.inr (slot_ne (Or.inr (hw _ (List.mem_of_getElem? (i := 58) rfl))) (Or.inl (hw _ (List.mem_of_getElem? (i := 73) rfl))) (by decide) (t := .int) (t' := (.array .int)) (by decide) (by decide)))
  have f80 := f66.other W77 (Or.inr (slot_ne (Or.inr (hw _ (List.mem_of_getElem? (i := 60) rfl))) (Or.inl (hw _ (List.mem_of_getElem? (i := 73) rfl))) (by decide) (t := .int) (t' := (.array .int)) (by decide) (by decide)))
  have f81 := f67.other W77 (Or.inr (slot_ne (Or.inl (hw _ (List.mem_of_getElem? (i := 67) rfl))) (Or.inl (hw _ (List.mem_of_getElem? (i := 73) rfl))) (by decide) (t := .int) (t' := (.array .int)) (by decide) (by decide)))
  have f82 := f68.other W77 (Or.inr (slot_ne (Or.inl (hw _ (List.mem_of_getElem? (i := 83) rfl))) (Or.inl (hw _ (List.mem_of_getElem? (i := 73) rfl))) (by decide) (t := .int) (t' := (.array .int)) (by decide) (by decide)))
  have f83 := f69.other W77 (Or.inr (slot_ne (Or.inl (hw _ (List.mem_of_getElem? (i := 69) rfl))) (Or.inl (hw _ (List.mem_of_getElem? (i := 73) rfl))) (by decide) (t := (.array .int)) (t' := (.array .int)) (by decide) (by decide)))
  have f84 := f70.other W77 (Or.inr (slot_ne (Or.inl (hw _ (List.mem_of_getElem? (i := 71) rfl))) (Or.inl (hw _ (List.mem_of_getElem? (i := 73) rfl))) (by decide) (t := (.array .int)) (t' := (.array .int)) (by decide) (by decide)))
  have f85 := f72.other W77 (Or.inr (slot_ne (Or.inl (hw _ (List.mem_of_getElem? (i := 76) rfl))) (Or.inl (hw _ (List.mem_of_getElem? (i := 73) rfl))) (by decide) (t := (.array .long)) (t' := (.array .int)) (by decide) (by decide)))
  have f86 := f73.other W77 (Or.inr (slot_ne (Or.inl (hw _ (List.mem_of_getElem? (i := 79) rfl))) (Or.inl (hw _ (List.mem_of_getElem? (i := 73) rfl))) (by decide) (t := (.array .boolean)) (t' := (.array .int)) (by decide) (by decide)))
  have f87 := f74.other W77 (Or.inr (slot_ne (Or.inl (hw _ (List.mem_of_getElem? (i := 81) rfl))) (Or.inl (hw _ (List.mem_of_getElem? (i := 73) rfl))) (by decide) (t := (.array .long)) (t' := (.array .int)) (by decide) (by decide)))
  have f88 := f75.other W77 (Ne.symm ne6)
  have f89 := f76.other W77 (Ne.symm ne32)
  have f90 := B60.other W77 (Ne.symm ne61)
  have N77 := Fr.snoc X77 N46 g1
  have K77 := K60.wr W77 (Or.inl (List.mem_of_getElem? (i := 0) rfl))
  have Z77 : n0 ≤ h77.size := Nat.le_trans Z60 (Keep.of_wr W77).1
  obtain ⟨T91, X91, e91, st91⟩ := getF X77 hx hZ hown (host := "") (Or.inl (hw _ (List.mem_of_getElem? (i := 59) rfl))) Via.refl e77 f80 (g := (mkF m 51 #[.val (.ref a1), .val (.int p2), .val (.int p3), .val (.int p4)] [(.ref a1), (.ref a1)])) rfl rfl (hb hby dD1_51)
  obtain ⟨T92, X92, e92, st92⟩ := getF X91 hx hZ hown (host := "") (Or.inl (hw _ (List.mem_of_getElem? (i := 57) rfl))) Via.refl e91 f79 (g := (mkF m 55 #[.val (.ref a1), .val (.int p2), .val (.int p3), .val (.int p4)] [(.ref a1), (.int ac), (.ref a1)])) rfl rfl (hb hby dD1_55)
  obtain ⟨T93, h93, X93, e93, E93, A93, st93⟩ := oNew X92 hx hZ (hw _ (List.mem_of_getElem? (i := 74) rfl)) e92 (g := (mkF m 59 #[.val (.ref a1), .val (.int p2), .val (.int p3), .val (.int p4)] [(.int (ac * (2 : Int32))), (.ref a1)])) rfl (hb hby dD1_59) rfl (k := (2 * ak)) (cap := 6) (own_two hac hak) (by omega) (by decide) (by decide) (by decide)
  obtain ⟨ct, g93⟩ : ∃ z, z = h77.size := ⟨_, rfl⟩
  rw [← g93] at A93 st93
  have ne94 : a1 ≠ ct := Nat.ne_of_lt (Nat.lt_of_lt_of_le f78.lt (Nat.le_of_eq g93.symm))
  have ne95 : si ≠ ct := Nat.ne_of_lt (Nat.lt_of_lt_of_le f88.lt (Nat.le_of_eq g93.symm))
  have ne96 : fo ≠ ct := Nat.ne_of_lt (Nat.lt_of_lt_of_le f89.lt (Nat.le_of_eq g93.symm))
  have ne97 : po ≠ ct := Nat.ne_of_lt (Nat.lt_of_lt_of_le f90.lt (Nat.le_of_eq g93.symm))
  have gg93 : n0 ≤ ct := Nat.le_trans Z77 (Nat.le_of_eq g93.symm)
  have sz93 : h0.size ≤ ct := Nat.le_trans K77.1 (Nat.le_of_eq g93.symm)
  have f98 := f78.ext E93
  have f99 := f79.ext E93
  have f100 := f80.ext E93
  have f101 := f81.ext E93
  have f102 := f82.ext E93
  have f103 := f83.ext E93
  have f104 := f84.ext E93
  have f105 := Fw77.ext E93
  have f106 := f85.ext E93
  have f107 := f86.ext E93
  have f108 := f87.ext E93
  have f109 := f88.ext E93
  have f110 := f89.ext E93
  have f111 := f90.ext E93
  have Z93 : n0 ≤ h93.size := Nat.le_trans Z77 E93.1
  have K93 := K77.ext E93
  have B93 : OArr Z h93 ct .long (2 * ak) (fun _ => .long (0 : Int64)) := A93
  obtain ⟨T112, h112, X112, e112, W112, st112⟩ := putF X93 hx hZ hown (host := "") (Or.inl (hw _ (List.mem_of_getElem? (i := 75) rfl))) Via.refl e93 f106 f98 (Or.inl (hw _ (List.mem_of_getElem? (i := 76) rfl))) (hw _ (List.mem_of_getElem? (i := 1) rfl)) (ty := (.array .long)) (by decide) rfl rfl (g := (mkF m 61 #[.val (.ref a1), .val (.int p2), .val (.int p3), .val (.int p4)] [(.ref ct), (.ref a1)])) rfl rfl (hb hby dD1_61)
  have Fw112 := f106.same W112
  have f113 := f98.wr W112
  have f114 := f99.other W112 (Or.inr (slot_ne (Or.inr (hw _ (List.mem_of_getElem? (i := 58) rfl))) (Or.inl (hw _ (List.mem_of_getElem? (i := 76) rfl))) (by decide) (t := .int) (t' := (.array .long)) (by decide) (by decide)))
  have f115 := f100.other W112 (Or.inr (slot_ne (Or.inr (hw _ (List.mem_of_getElem? (i := 60) rfl))) (Or.inl (hw _ (List.mem_of_getElem? (i := 76) rfl))) (by decide) (t := .int) (t' := (.array .long)) (by decide) (by decide)))
  have f116 := f101.other W112 (Or.inr (slot_ne (Or.inl (hw _ (List.mem_of_getElem? (i := 67) rfl))) (Or.inl (hw _ (List.mem_of_getElem? (i := 76) rfl))) (by decide) (t := .int) (t' := (.array .long)) (by decide) (by decide)))
  have f117 := f102.other W112 (Or.inr (slot_ne (Or.inl (hw _ (List.mem_of_getElem? (i := 83) rfl))) (Or.inl (hw _ (List.mem_of_getElem? (i := 76) rfl))) (by decide) (t := .int) (t' := (.array .long)) (by decide) (by decide)))
  have f118 := f103.other W112 (Or.inr (slot_ne (Or.inl (hw _ (List.mem_of_getElem? (i := 69) rfl))) (Or.inl (hw _ (List.mem_of_getElem? (i := 76) rfl))) (by decide) (t := (.array .int)) (t' := (.array .long)) (by decide) (by decide)))
  have f119 := f104.other W112 (Or.inr (slot_ne (Or.inl (hw _ (List.mem_of_getElem? (i := 71) rfl))) (Or.inl (hw _ (List.mem_of_getElem? (i := 76) rfl))) (by decide) (t := (.array .int)) (t' := (.array .long)) (by decide) (by decide)))
  have f120 := f105.other W112 (Or.inr (slot_ne (Or.inl (hw _ (List.mem_of_getElem? (i := 73) rfl))) (Or.inl (hw _ (List.mem_of_getElem? (i := 76) rfl))) (by decide) (t := (.array .int)) (t' := (.array .long)) (by decide) (by decide)))
  have f121 := f107.other W112 (Or.inr (slot_ne (Or.inl (hw _ (List.mem_of_getElem? (i := 79) rfl))) (Or.inl (hw _ (List.mem_of_getElem? (i := 76) rfl))) (by decide) (t := (.array .boolean)) (t' := (.array .long)) (by decide) (by decide)))
  have f122 := f108.other W112 (Or.inr (slot_ne (Or.inl (hw _ (List.mem_of_getElem? (i := 81) rfl))) (Or.inl (hw _ (List.mem_of_getElem? (i := 76) rfl))) (by decide) (t := (.array .long)) (t' := (.array .long)) (by decide) (by decide)))
  have f123 := f109.other W112 (Ne.symm ne6)
  have f124 := f110.other W112 (Ne.symm ne32)
  have f125 := f111.other W112 (Ne.symm ne61)
  have f126 := B93.other W112 (Ne.symm ne94)
  have N112 := Fr.snoc X112 N77 g1
  have K112 := K93.wr W112 (Or.inl (List.mem_of_getElem? (i := 0) rfl))
  have Z112 : n0 ≤ h112.size := Nat.le_trans Z93 (Keep.of_wr W112).1
  obtain ⟨T127, X127, e127, st127⟩ := getF X112 hx hZ hown (host := "") (Or.inl (hw _ (List.mem_of_getElem? (i := 57) rfl))) Via.refl e112 f114 (g := (mkF m 66 #[.val (.ref a1), .val (.int p2), .val (.int p3), .val (.int p4)] [(.ref a1), (.ref a1)])) rfl rfl (hb hby dD1_66)
  obtain ⟨T128, h128, X128, e128, E128, A128, st128⟩ := oNew X127 hx hZ (hw _ (List.mem_of_getElem? (i := 77) rfl)) e127 (g := (mkF m 69 #[.val (.ref a1), .val (.int p2), .val (.int p3), .val (.int p4)] [(.int (2 : Int32)), (.ref a1)])) rfl (hb hby dD1_69) rfl (k := 2) (cap := 2) rfl (by decide) (by decide) (by decide) (by decide)
  obtain ⟨tk, g128⟩ : ∃ z, z = h112.size := ⟨_, rfl⟩
  rw [← g128] at A128 st128
  have ne129 : a1 ≠ tk := Nat.ne_of_lt (Nat.lt_of_lt_of_le f113.lt (Nat.le_of_eq g128.symm))
  have ne130 : si ≠ tk := Nat.ne_of_lt (Nat.lt_of_lt_of_le f123.lt (Nat.le_of_eq g128.symm))
  have ne131 : fo ≠ tk := Nat.ne_of_lt (Nat.lt_of_lt_of_le f124.lt (Nat.le_of_eq g128.symm))
  have ne132 : po ≠ tk := Nat.ne_of_lt (Nat.lt_of_lt_of_le f125.lt (Nat.le_of_eq g128.symm))
  have ne133 : ct ≠ tk := Nat.ne_of_lt (Nat.lt_of_lt_of_le f126.lt (Nat.le_of_eq g128.symm))
  have gg128 : n0 ≤ tk := Nat.le_trans Z112 (Nat.le_of_eq g128.symm)
  have sz128 : h0.size ≤ tk := Nat.le_trans K112.1 (Nat.le_of_eq g128.symm)
  have f134 := f113.ext E128
  have f135 := f114.ext E128
  have f136 := f115.ext E128
  have f137 := f116.ext E128
  have f138 := f117.ext E128
  have f139 := f118.ext E128
  have f140 := f119.ext E128
  have f141 := f120.ext E128
  have f142 := Fw112.ext E128
  have f143 := f121.ext E128
  have f144 := f122.ext E128
  have f145 := f123.ext E128
  have f146 := f124.ext E128
  have f147 := f125.ext E128
  have f148 := f126.ext E128
  have Z128 : n0 ≤ h128.size := Nat.le_trans Z112 E128.1
  have K128 := K112.ext E128
  have B128 : OArr Z h128 tk .boolean 2 (fun _ => .int (0 : Int32)) := A128
  obtain ⟨T149, h149, X149, e149, W149, st149⟩ := putF X128 hx hZ hown (host := "") (Or.inl (hw _ (List.mem_of_getElem? (i := 78) rfl))) Via.refl e128 f143 f134 (Or.inl (hw _ (List.mem_of_getElem? (i := 79) rfl))) (hw _ (List.mem_of_getElem? (i := 1) rfl)) (ty := (.array .boolean)) (by decide) rfl rfl (g := (mkF m 71 #[.val (.ref a1), .val (.int p2), .val (.int p3), .val (.int p4)] [(.ref tk), (.ref a1)])) rfl rfl (hb hby dD1_71)
  have Fw149 := f143.same W149
  have f150 := f134.wr W149
  have f151 := f135.other W149 (Or.inr (slot_ne (Or.inr (hw _ (List.mem_of_getElem? (i := 58) rfl))) (Or.inl (hw _ (List.mem_of_getElem? (i := 79) rfl))) (by decide) (t := .int) (t' := (.array .boolean)) (by decide) (by decide)))
  have f152 := f136.other W149 (Or.inr (slot_ne (Or.inr (hw _ (List.mem_of_getElem? (i := 60) rfl))) (Or.inl (hw _ (List.mem_of_getElem? (i := 79) rfl))) (by decide) (t := .int) (t' := (.array .boolean)) (by decide) (by decide)))
  have f153 := f137.other W149 (Or.inr (slot_ne (Or.inl (hw _ (List.mem_of_getElem? (i := 67) rfl))) (Or.inl (hw _ (List.mem_of_getElem? (i := 79) rfl))) (by decide) (t := .int) (t' := (.array .boolean)) (by decide) (by decide)))
  have f154 := f138.other W149 (Or.inr (slot_ne (Or.inl (hw _ (List.mem_of_getElem? (i := 83) rfl))) (Or.inl (hw _ (List.mem_of_getElem? (i := 79) rfl))) (by decide) (t := .int) (t' := (.array .boolean)) (by decide) (by decide)))
  have f155 := f139.other W149 (Or.inr (slot_ne (Or.inl (hw _ (List.mem_of_getElem? (i := 69) rfl))) (Or.inl (hw _ (List.mem_of_getElem? (i := 79) rfl))) (by decide) (t := (.array .int)) (t' := (.array .boolean)) (by decide) (by decide)))
  have f156 := f140.other W149 (Or.inr (slot_ne (Or.inl (hw _ (List.mem_of_getElem? (i := 71) rfl))) (Or.inl (hw _ (List.mem_of_getElem? (i := 79) rfl))) (by decide) (t := (.array .int)) (t' := (.array .boolean)) (by decide) (by decide)))
  have f157 := f141.other W149 (Or.inr (slot_ne (Or.inl (hw _ (List.mem_of_getElem? (i := 73) rfl))) (Or.inl (hw _ (List.mem_of_getElem? (i := 79) rfl))) (by decide) (t := (.array .int)) (t' := (.array .boolean)) (by decide) (by decide)))
  have f158 := f142.other W149 (Or.inr (slot_ne (Or.inl (hw _ (List.mem_of_getElem? (i := 76) rfl))) (Or.inl (hw _ (List.mem_of_getElem? (i := 79) rfl))) (by decide) (t := (.array .long)) (t' := (.array .boolean)) (by decide) (by decide)))
  have f159 := f144.other W149 (Or.inr (slot_ne (Or.inl (hw _ (List.mem_of_getElem? (i := 81) rfl))) (Or.inl (hw _ (List.mem_of_getElem? (i := 79) rfl))) (by decide) (t := (.array .long)) (t' := (.array .boolean)) (by decide) (by decide)))
  have f160 := f145.other W149 (Ne.symm ne6)
  have f161 := f146.other W149 (Ne.symm ne32)
  have f162 := f147.other W149 (Ne.symm ne61)
  have f163 := f148.other W149 (Ne.symm ne94)
  have f164 := B128.other W149 (Ne.symm ne129)
  have N149 := Fr.snoc X149 N112 g1
  have K149 := K128.wr W149 (Or.inl (List.mem_of_getElem? (i := 0) rfl))
  have Z149 : n0 ≤ h149.size := Nat.le_trans Z128 (Keep.of_wr W149).1
  obtain ⟨T165, X165, e165, st165⟩ := getF X149 hx hZ hown (host := "") (Or.inl (hw _ (List.mem_of_getElem? (i := 57) rfl))) Via.refl e149 f151 (g := (mkF m 76 #[.val (.ref a1), .val (.int p2), .val (.int p3), .val (.int p4)] [(.ref a1), (.ref a1)])) rfl rfl (hb hby dD1_76)
  obtain ⟨T166, h166, X166, e166, E166, A166, st166⟩ := oNew X165 hx hZ (hw _ (List.mem_of_getElem? (i := 74) rfl)) e165 (g := (mkF m 79 #[.val (.ref a1), .val (.int p2), .val (.int p3), .val (.int p4)] [(.int (2 : Int32)), (.ref a1)])) rfl (hb hby dD1_79) rfl (k := 2) (cap := 2) rfl (by decide) (by decide) (by decide) (by decide)
  obtain ⟨ho, g166⟩ : ∃ z, z = h149.size := ⟨_, rfl⟩
  rw [← g166] at A166 st166
  have ne167 : a1 ≠ ho := Nat.ne_of_lt (Nat.lt_of_lt_of_le f150.lt (Nat.le_of_eq g166.symm))
  have ne168 : si ≠ ho := Nat.ne_of_lt (Nat.lt_of_lt_of_le f160.lt (Nat.le_of_eq g166.symm))
  have ne169 : fo ≠ ho := Nat.ne_of_lt (Nat.lt_of_lt_of_le f161.lt (Nat.le_of_eq g166.symm))
  have ne170 : po ≠ ho := Nat.ne_of_lt (Nat.lt_of_lt_of_le f162.lt (Nat.le_of_eq g166.symm))
  have ne171 : ct ≠ ho := Nat.ne_of_lt (Nat.lt_of_lt_of_le f163.lt (Nat.le_of_eq g166.symm))
  have ne172 : tk ≠ ho := Nat.ne_of_lt (Nat.lt_of_lt_of_le f164.lt (Nat.le_of_eq g166.symm))
  have gg166 : n0 ≤ ho := Nat.le_trans Z149 (Nat.le_of_eq g166.symm)
  have sz166 : h0.size ≤ ho := Nat.le_trans K149.1 (Nat.le_of_eq g166.symm)
  have f173 := f150.ext E166
  have f174 := f151.ext E166
  have f175 := f152.ext E166
  have f176 := f153.ext E166
  have f177 := f154.ext E166
  have f178 := f155.ext E166
  have f179 := f156.ext E166
  have f180 := f157.ext E166
  have f181 := f158.ext E166
  have f182 := Fw149.ext E166
  have f183 := f159.ext E166
  have f184 := f160.ext E166
  have f185 := f161.ext E166
  have f186 := f162.ext E166
  have f187 := f163.ext E166
  have f188 := f164.ext E166
  have Z166 : n0 ≤ h166.size := Nat.le_trans Z149 E166.1
  have K166 := K149.ext E166
  have B166 : OArr Z h166 ho .long 2 (fun _ => .long (0 : Int64)) := A166
  obtain ⟨T189, h189, X189, e189, W189, st189⟩ := putF X166 hx hZ hown (host := "") (Or.inl (hw _ (List.mem_of_getElem? (i := 80) rfl))) Via.refl e166 f183 f173 (Or.inl (hw _ (List.mem_of_getElem? (i := 81) rfl))) (hw _ (List.mem_of_getElem? (i := 1) rfl)) (ty := (.array .long)) (by decide) rfl rfl (g := (mkF m 81 #[.val (.ref a1), .val (.int p2), .val (.int p3), .val (.int p4)] [(.ref ho), (.ref a1)])) rfl rfl (hb hby dD1_81)
  have Fw189 := f183.same W189
  have f190 := f173.wr W189
  have f191 := f174.other W189 (Or.inr (slot_ne (Or.inr (hw _ (List.mem_of_getElem? (i := 58) rfl))) (Or.inl (hw _ (List.mem_of_getElem? (i := 81) rfl))) (by decide) (t := .int) (t' := (.array .long)) (by decide) (by decide)))
  have f192 := f175.other W189 (Or.inr (slot_ne (Or.inr (hw _ (List.mem_of_getElem? (i := 60) rfl))) (Or.inl (hw _ (List.mem_of_getElem? (i := 81) rfl))) (by decide) (t := .int) (t' := (.array .long)) (by decide) (by decide)))
  have f193 := f176.other W189 (Or.inr (slot_ne (Or.inl (hw _ (List.mem_of_getElem? (i := 67) rfl))) (Or.inl (hw _ (List.mem_of_getElem? (i := 81) rfl))) (by decide) (t := .int) (t' := (.array .long)) (by decide) (by decide)))
  have f194 := f177.other W189 (Or.inr (slot_ne (Or.inl (hw _ (List.mem_of_getElem? (i := 83) rfl))) (Or.inl (hw _ (List.mem_of_getElem? (i := 81) rfl))) (by decide) (t := .int) (t' := (.array .long)) (by decide) (by decide)))
  have f195 := f178.other W189 (Or.inr (slot_ne (Or.inl (hw _ (List.mem_of_getElem? (i := 69) rfl))) (Or.inl (hw _ (List.mem_of_getElem? (i := 81) rfl))) (by decide) (t := (.array .int)) (t' := (.array .long)) (by decide) (by decide)))
  have f196 := f179.other W189 (Or.inr (slot_ne (Or.inl (hw _ (List.mem_of_getElem? (i := 71) rfl))) (Or.inl (hw _ (List.mem_of_getElem? (i := 81) rfl))) (by decide) (t := (.array .int)) (t' := (.array .long)) (by decide) (by decide)))
  have f197 := f180.other W189 (Or.inr (slot_ne (Or.inl (hw _ (List.mem_of_getElem? (i := 73) rfl))) (Or.inl (hw _ (List.mem_of_getElem? (i := 81) rfl))) (by decide) (t := (.array .int)) (t' := (.array .long)) (by decide) (by decide)))
  have f198 := f181.other W189 (Or.inr (slot_ne (Or.inl (hw _ (List.mem_of_getElem? (i := 76) rfl))) (Or.inl (hw _ (List.mem_of_getElem? (i := 81) rfl))) (by decide) (t := (.array .long)) (t' := (.array .long)) (by decide) (by decide)))
  have f199 := f182.other W189 (Or.inr (slot_ne (Or.inl (hw _ (List.mem_of_getElem? (i := 79) rfl))) (Or.inl (hw _ (List.mem_of_getElem? (i := 81) rfl))) (by decide) (t := (.array .boolean)) (t' := (.array .long)) (by decide) (by decide)))
  have f200 := f184.other W189 (Ne.symm ne6)
  have f201 := f185.other W189 (Ne.symm ne32)
  have f202 := f186.other W189 (Ne.symm ne61)
  have f203 := f187.other W189 (Ne.symm ne94)
  have f204 := f188.other W189 (Ne.symm ne129)
  have f205 := B166.other W189 (Ne.symm ne167)
  have N189 := Fr.snoc X189 N149 g1
  have K189 := K166.wr W189 (Or.inl (List.mem_of_getElem? (i := 0) rfl))
  have Z189 : n0 ≤ h189.size := Nat.le_trans Z166 (Keep.of_wr W189).1
  obtain ⟨T206, X206, e206, st206⟩ := getF X189 hx hZ hown (host := "") (Or.inl (hw _ (List.mem_of_getElem? (i := 68) rfl))) Via.refl e189 f195 (g := (mkF m 85 #[.val (.ref a1), .val (.int p2), .val (.int p3), .val (.int p4)] [(.ref a1)])) rfl rfl (hb hby dD1_85)
  obtain ⟨T207, X207, e207, st207⟩ := getF X206 hx hZ hown (host := "") (Or.inl (hw _ (List.mem_of_getElem? (i := 66) rfl))) Via.refl e206 f193 (g := (mkF m 89 #[.val (.ref a1), .val (.int p2), .val (.int p3), .val (.int p4)] [(.ref a1), (.ref si)])) rfl rfl (hb hby dD1_89)
  obtain ⟨T208, h208, X208, e208, W208, A208, st208⟩ := oStI X207 hx hZ e207 f200 (k := 0) rfl (by decide) (g := (mkF m 93 #[.val (.ref a1), .val (.int p2), .val (.int p3), .val (.int p4)] [(.int p2), (.int (0 : Int32)), (.ref si)])) rfl rfl (hb hby dD1_93)
  have f209 := f190.wr W208
  have f210 := f191.other W208 (Or.inl ne6)
  have f211 := f192.other W208 (Or.inl ne6)
  have f212 := f193.other W208 (Or.inl ne6)
  have f213 := f194.other W208 (Or.inl ne6)
  have f214 := f195.other W208 (Or.inl ne6)
  have f215 := f196.other W208 (Or.inl ne6)
  have f216 := f197.other W208 (Or.inl ne6)
  have f217 := f198.other W208 (Or.inl ne6)
  have f218 := f199.other W208 (Or.inl ne6)
  have f219 := Fw189.other W208 (Or.inl ne6)
  have f220 := f201.other W208 (Ne.symm ne33)
  have f221 := f202.other W208 (Ne.symm ne62)
  have f222 := f203.other W208 (Ne.symm ne95)
  have f223 := f204.other W208 (Ne.symm ne130)
  have f224 := f205.other W208 (Ne.symm ne168)
  have N208 := Fr.snoc X208 N189 gg5
  have K208 := K189.wr W208 (Or.inr sz5)
  have Z208 : n0 ≤ h208.size := Nat.le_trans Z189 (Keep.of_wr W208).1
  obtain ⟨T225, X225, e225, st225⟩ := getF X208 hx hZ hown (host := "") (Or.inl (hw _ (List.mem_of_getElem? (i := 70) rfl))) Via.refl e208 f215 (g := (mkF m 95 #[.val (.ref a1), .val (.int p2), .val (.int p3), .val (.int p4)] [(.ref a1)])) rfl rfl (hb hby dD1_95)
  obtain ⟨T226, X226, e226, st226⟩ := getF X225 hx hZ hown (host := "") (Or.inl (hw _ (List.mem_of_getElem? (i := 66) rfl))) Via.refl e225 f212 (g := (mkF m 99 #[.val (.ref a1), .val (.int p2), .val (.int p3), .val (.int p4)] [(.ref a1), (.ref fo)])) rfl rfl (hb hby dD1_99)
  obtain ⟨T227, h227, X227, e227, W227, A227, st227⟩ := oStI X226 hx hZ e226 f220 (k := 0) rfl (by decide) (g := (mkF m 103 #[.val (.ref a1), .val (.int p2), .val (.int p3), .val (.int p4)] [(.int p3), (.int (0 : Int32)), (.ref fo)])) rfl rfl (hb hby dD1_103)
  have f228 := f209.wr W227
  have f229 := f210.other W227 (Or.inl ne32)
  have f230 := f211.other W227 (Or.inl ne32)
  have f231 := f212.other W227 (Or.inl ne32)
  have f232 := f213.other W227 (Or.inl ne32)
  have f233 := f214.other W227 (Or.inl ne32)
  have f234 := f215.other W227 (Or.inl ne32)
  have f235 := f216.other W227 (Or.inl ne32)
  have f236 := f217.other W227 (Or.inl ne32)
  have f237 := f218.other W227 (Or.inl ne32)
  have f238 := f219.other W227 (Or.inl ne32)
  have f239 := A208.other W227 ne33
  have f240 := f221.other W227 (Ne.symm ne63)
  have f241 := f222.other W227 (Ne.symm ne96)
  have f242 := f223.other W227 (Ne.symm ne131)
  have f243 := f224.other W227 (Ne.symm ne169)
  have N227 := Fr.snoc X227 N208 gg31
  have K227 := K208.wr W227 (Or.inr sz31)
  have Z227 : n0 ≤ h227.size := Nat.le_trans Z208 (Keep.of_wr W227).1
  obtain ⟨T244, X244, e244, st244⟩ := getF X227 hx hZ hown (host := "") (Or.inl (hw _ (List.mem_of_getElem? (i := 72) rfl))) Via.refl e227 f235 (g := (mkF m 105 #[.val (.ref a1), .val (.int p2), .val (.int p3), .val (.int p4)] [(.ref a1)])) rfl rfl (hb hby dD1_105)
  obtain ⟨T245, X245, e245, st245⟩ := getF X244 hx hZ hown (host := "") (Or.inl (hw _ (List.mem_of_getElem? (i := 66) rfl))) Via.refl e244 f231 (g := (mkF m 109 #[.val (.ref a1), .val (.int p2), .val (.int p3), .val (.int p4)] [(.ref a1), (.ref po)])) rfl rfl (hb hby dD1_109)
  obtain ⟨T246, h246, X246, e246, W246, A246, st246⟩ := oStI X245 hx hZ e245 f240 (k := 0) rfl (by decide) (g := (mkF m 113 #[.val (.ref a1), .val (.int p2), .val (.int p3), .val (.int p4)] [(.int p4), (.int (0 : Int32)), (.ref po)])) rfl rfl (hb hby dD1_113)
  have f247 := f228.wr W246
  have f248 := f229.other W246 (Or.inl ne61)
  have f249 := f230.other W246 (Or.inl ne61)
  have f250 := f231.other W246 (Or.inl ne61)
  have f251 := f232.other W246 (Or.inl ne61)
  have f252 := f233.other W246 (Or.inl ne61)
  have f253 := f234.other W246 (Or.inl ne61)
  have f254 := f235.other W246 (Or.inl ne61)
  have f255 := f236.other W246 (Or.inl ne61)
  have f256 := f237.other W246 (Or.inl ne61)
  have f257 := f238.other W246 (Or.inl ne61)
  have f258 := f239.other W246 ne62
  have f259 := A227.other W246 ne63
  have f260 := f241.other W246 (Ne.symm ne97)
  have f261 := f242.other W246 (Ne.symm ne132)
  have f262 := f243.other W246 (Ne.symm ne170)
  have N246 := Fr.snoc X246 N227 gg60
  have K246 := K227.wr W246 (Or.inr sz60)
  have Z246 : n0 ≤ h246.size := Nat.le_trans Z227 (Keep.of_wr W246).1
  obtain ⟨T263, X263, e263, st263⟩ := getF X246 hx hZ hown (host := "") (Or.inl (hw _ (List.mem_of_getElem? (i := 78) rfl))) Via.refl e246 f256 (g := (mkF m 115 #[.val (.ref a1), .val (.int p2), .val (.int p3), .val (.int p4)] [(.ref a1)])) rfl rfl (hb hby dD1_115)
  obtain ⟨T264, X264, e264, st264⟩ := getF X263 hx hZ hown (host := "") (Or.inl (hw _ (List.mem_of_getElem? (i := 66) rfl))) Via.refl e263 f250 (g := (mkF m 119 #[.val (.ref a1), .val (.int p2), .val (.int p3), .val (.int p4)] [(.ref a1), (.ref tk)])) rfl rfl (hb hby dD1_119)
  obtain ⟨T265, h265, X265, e265, W265, A265, st265⟩ := oStZ X264 hx hZ e264 f261 (k := 0) rfl (by decide) (g := (mkF m 123 #[.val (.ref a1), .val (.int p2), .val (.int p3), .val (.int p4)] [(.int (0 : Int32)), (.int (0 : Int32)), (.ref tk)])) rfl rfl (hb hby dD1_123)
  have f266 := f247.wr W265
  have f267 := f248.other W265 (Or.inl ne129)
  have f268 := f249.other W265 (Or.inl ne129)
  have f269 := f250.other W265 (Or.inl ne129)
  have f270 := f251.other W265 (Or.inl ne129)
  have f271 := f252.other W265 (Or.inl ne129)
  have f272 := f253.other W265 (Or.inl ne129)
  have f273 := f254.other W265 (Or.inl ne129)
  have f274 := f255.other W265 (Or.inl ne129)
  have f275 := f256.other W265 (Or.inl ne129)
  have f276 := f257.other W265 (Or.inl ne129)
  have f277 := f258.other W265 ne130
  have f278 := f259.other W265 ne131
  have f279 := A246.other W265 ne132
  have f280 := f260.other W265 ne133
  have f281 := f262.other W265 (Ne.symm ne172)
  have N265 := Fr.snoc X265 N246 gg128
  have K265 := K246.wr W265 (Or.inr sz128)
  have Z265 : n0 ≤ h265.size := Nat.le_trans Z246 (Keep.of_wr W265).1
  obtain ⟨T282, X282, e282, st282⟩ := getF X265 hx hZ hown (host := "") (Or.inl (hw _ (List.mem_of_getElem? (i := 66) rfl))) Via.refl e265 f269 (g := (mkF m 126 #[.val (.ref a1), .val (.int p2), .val (.int p3), .val (.int p4)] [(.ref a1), (.ref a1)])) rfl rfl (hb hby dD1_126)
  obtain ⟨T283, h283, X283, e283, W283, st283⟩ := putF X282 hx hZ hown (host := "") (Or.inl (hw _ (List.mem_of_getElem? (i := 66) rfl))) Via.refl e282 f269 f266 (Or.inl (hw _ (List.mem_of_getElem? (i := 67) rfl))) (hw _ (List.mem_of_getElem? (i := 1) rfl)) (ty := .int) (by decide) rfl rfl (g := (mkF m 131 #[.val (.ref a1), .val (.int p2), .val (.int p3), .val (.int p4)] [(.int ((0 : Int32) + (1 : Int32))), (.ref a1)])) rfl rfl (hb hby dD1_131)
  have Fw283 := f269.same W283
  have f284 := f266.wr W283
  have f285 := f267.other W283 (Or.inr (slot_ne (Or.inr (hw _ (List.mem_of_getElem? (i := 58) rfl))) (Or.inl (hw _ (List.mem_of_getElem? (i := 67) rfl))) (by decide) (t := .int) (t' := .int) (by decide) (by decide)))
  have f286 := f268.other W283 (Or.inr (slot_ne (Or.inr (hw _ (List.mem_of_getElem? (i := 60) rfl))) (Or.inl (hw _ (List.mem_of_getElem? (i := 67) rfl))) (by decide) (t := .int) (t' := .int) (by decide) (by decide)))
  have f287 := f270.other W283 (Or.inr (slot_ne (Or.inl (hw _ (List.mem_of_getElem? (i := 83) rfl))) (Or.inl (hw _ (List.mem_of_getElem? (i := 67) rfl))) (by decide) (t := .int) (t' := .int) (by decide) (by decide)))
  have f288 := f271.other W283 (Or.inr (slot_ne (Or.inl (hw _ (List.mem_of_getElem? (i := 69) rfl))) (Or.inl (hw _ (List.mem_of_getElem? (i := 67) rfl))) (by decide) (t := (.array .int)) (t' := .int) (by decide) (by decide)))
  have f289 := f272.other W283 (Or.inr (slot_ne (Or.inl (hw _ (List.mem_of_getElem? (i := 71) rfl))) (Or.inl (hw _ (List.mem_of_getElem? (i := 67) rfl))) (by decide) (t := (.array .int)) (t' := .int) (by decide) (by decide)))
  have f290 := f273.other W283 (Or.inr (slot_ne (Or.inl (hw _ (List.mem_of_getElem? (i := 73) rfl))) (Or.inl (hw _ (List.mem_of_getElem? (i := 67) rfl))) (by decide) (t := (.array .int)) (t' := .int) (by decide) (by decide)))
  have f291 := f274.other W283 (Or.inr (slot_ne (Or.inl (hw _ (List.mem_of_getElem? (i := 76) rfl))) (Or.inl (hw _ (List.mem_of_getElem? (i := 67) rfl))) (by decide) (t := (.array .long)) (t' := .int) (by decide) (by decide)))
  have f292 := f275.other W283 (Or.inr (slot_ne (Or.inl (hw _ (List.mem_of_getElem? (i := 79) rfl))) (Or.inl (hw _ (List.mem_of_getElem? (i := 67) rfl))) (by decide) (t := (.array .boolean)) (t' := .int) (by decide) (by decide)))
  have f293 := f276.other W283 (Or.inr (slot_ne (Or.inl (hw _ (List.mem_of_getElem? (i := 81) rfl))) (Or.inl (hw _ (List.mem_of_getElem? (i := 67) rfl))) (by decide) (t := (.array .long)) (t' := .int) (by decide) (by decide)))
  have f294 := f277.other W283 (Ne.symm ne6)
  have f295 := f278.other W283 (Ne.symm ne32)
  have f296 := f279.other W283 (Ne.symm ne61)
  have f297 := f280.other W283 (Ne.symm ne94)
  have f298 := A265.other W283 (Ne.symm ne129)
  have f299 := f281.other W283 (Ne.symm ne167)
  have N283 := Fr.snoc X283 N265 g1
  have K283 := K265.wr W283 (Or.inl (List.mem_of_getElem? (i := 0) rfl))
  have Z283 : n0 ≤ h283.size := Nat.le_trans Z265 (Keep.of_wr W283).1
  obtain ⟨T300, X300, e300, st300⟩ := getF X283 hx hZ hown (host := "") (Or.inl (hw _ (List.mem_of_getElem? (i := 82) rfl))) Via.refl e283 f287 (g := (mkF m 136 #[.val (.ref a1), .val (.int p2), .val (.int p3), .val (.int p4)] [(.ref a1), (.ref a1)])) rfl rfl (hb hby dD1_136)
  obtain ⟨T301, h301, X301, e301, W301, st301⟩ := putF X300 hx hZ hown (host := "") (Or.inl (hw _ (List.mem_of_getElem? (i := 82) rfl))) Via.refl e300 f287 f284 (Or.inl (hw _ (List.mem_of_getElem? (i := 83) rfl))) (hw _ (List.mem_of_getElem? (i := 1) rfl)) (ty := .int) (by decide) rfl rfl (g := (mkF m 141 #[.val (.ref a1), .val (.int p2), .val (.int p3), .val (.int p4)] [(.int ((0 : Int32) + (1 : Int32))), (.ref a1)])) rfl rfl (hb hby dD1_141)
  have Fw301 := f287.same W301
  have f302 := f284.wr W301
  have f303 := f285.other W301 (Or.inr (slot_ne (Or.inr (hw _ (List.mem_of_getElem? (i := 58) rfl))) (Or.inl (hw _ (List.mem_of_getElem? (i := 83) rfl))) (by decide) (t := .int) (t' := .int) (by decide) (by decide)))
  have f304 := f286.other W301 (Or.inr (slot_ne (Or.inr (hw _ (List.mem_of_getElem? (i := 60) rfl))) (Or.inl (hw _ (List.mem_of_getElem? (i := 83) rfl))) (by decide) (t := .int) (t' := .int) (by decide) (by decide)))
  have f305 := Fw283.other W301 (Or.inr (slot_ne (Or.inl (hw _ (List.mem_of_getElem? (i := 67) rfl))) (Or.inl (hw _ (List.mem_of_getElem? (i := 83) rfl))) (by decide) (t := .int) (t' := .int) (by decide) (by decide)))
  have f306 := f288.other W301 (Or.inr (slot_ne (Or.inl (hw _ (List.mem_of_getElem? (i := 69) rfl))) (Or.inl (hw _ (List.mem_of_getElem? (i := 83) rfl))) (by decide) (t := (.array .int)) (t' := .int) (by decide) (by decide)))
  have f307 := f289.other W301 (Or.inr (slot_ne (Or.inl (hw _ (List.mem_of_getElem? (i := 71) rfl))) (Or.inl (hw _ (List.mem_of_getElem? (i := 83) rfl))) (by decide) (t := (.array .int)) (t' := .int) (by decide) (by decide)))
  have f308 := f290.other W301 (Or.inr (slot_ne (Or.inl (hw _ (List.mem_of_getElem? (i := 73) rfl))) (Or.inl (hw _ (List.mem_of_getElem? (i := 83) rfl))) (by decide) (t := (.array .int)) (t' := .int) (by decide) (by decide)))
  have f309 := f291.other W301 (Or.inr (slot_ne (Or.inl (hw _ (List.mem_of_getElem? (i := 76) rfl))) (Or.inl (hw _ (List.mem_of_getElem? (i := 83) rfl))) (by decide) (t := (.array .long)) (t' := .int) (by decide) (by decide)))
  have f310 := f292.other W301 (Or.inr (slot_ne (Or.inl (hw _ (List.mem_of_getElem? (i := 79) rfl))) (Or.inl (hw _ (List.mem_of_getElem? (i := 83) rfl))) (by decide) (t := (.array .boolean)) (t' := .int) (by decide) (by decide)))
  have f311 := f293.other W301 (Or.inr (slot_ne (Or.inl (hw _ (List.mem_of_getElem? (i := 81) rfl))) (Or.inl (hw _ (List.mem_of_getElem? (i := 83) rfl))) (by decide) (t := (.array .long)) (t' := .int) (by decide) (by decide)))
  have f312 := f294.other W301 (Ne.symm ne6)
  have f313 := f295.other W301 (Ne.symm ne32)
  have f314 := f296.other W301 (Ne.symm ne61)
  have f315 := f297.other W301 (Ne.symm ne94)
  have f316 := f298.other W301 (Ne.symm ne129)
  have f317 := f299.other W301 (Ne.symm ne167)
  have N301 := Fr.snoc X301 N283 g1
  have K301 := K283.wr W301 (Or.inl (List.mem_of_getElem? (i := 0) rfl))
  have Z301 : n0 ≤ h301.size := Nat.le_trans Z283 (Keep.of_wr W301).1
  have pre318 : ∀ t, Steps p.tables e below (T301.setTop (mkF m 144 #[.val (.ref a1), .val (.int p2), .val (.int p3), .val (.int p4)] [])) t → Steps p.tables e below (s₁.setTop (entryFrame m #[(.ref a1), (.int p2), (.int p3), (.int p4)] 4)) t := fun t_ k_ => pre0 t_ (by
      refine XS.aloadN X0.here hx rfl (hb hby dD1_0) rfl rfl ?_
      show Steps p.tables e below (s₁.setTop (mkF m 1 #[.val (.ref a1), .val (.int p2), .val (.int p3), .val (.int p4)] [(.ref a1)])) _
      refine st1 _ ?_
      show Steps p.tables e below (T1.setTop (mkF m 4 #[.val (.ref a1), .val (.int p2), .val (.int p3), .val (.int p4)] [(.int (0 : Int32))])) _
      refine XS.aloadN X1.here hx rfl (hb hby dD1_4) rfl rfl ?_
      show Steps p.tables e below (T1.setTop (mkF m 5 #[.val (.ref a1), .val (.int p2), .val (.int p3), .val (.int p4)] [(.ref a1), (.int (0 : Int32))])) _
      refine st2 _ ?_
      show Steps p.tables e below (T2.setTop (mkF m 8 #[.val (.ref a1), .val (.int p2), .val (.int p3), .val (.int p4)] [(.int (2 : Int32)), (.int (0 : Int32))])) _
      refine XS.icmpYes X2.here hx rfl (pc0 := 8) (pc' := 12) rfl (hb hby dD1_8) rfl (feq (by decide : ¬ ((0 : Int32) = (2 : Int32)))).2 (by decide) (by decide) ?_
      show Steps p.tables e below (T2.setTop (mkF m 12 #[.val (.ref a1), .val (.int p2), .val (.int p3), .val (.int p4)] [])) _
      refine XS.aloadN X2.here hx rfl (hb hby dD1_12) rfl rfl ?_
      show Steps p.tables e below (T2.setTop (mkF m 13 #[.val (.ref a1), .val (.int p2), .val (.int p3), .val (.int p4)] [(.ref a1)])) _
      refine st3 _ ?_
      show Steps p.tables e below (T3.setTop (mkF m 16 #[.val (.ref a1), .val (.int p2), .val (.int p3), .val (.int p4)] [.null])) _
      refine XS.ifnonnullNo X3.here hx rfl (hb hby dD1_16) rfl ?_
      show Steps p.tables e below (T3.setTop (mkF m 19 #[.val (.ref a1), .val (.int p2), .val (.int p3), .val (.int p4)] [])) _
      refine XS.aloadN X3.here hx rfl (hb hby dD1_19) rfl rfl ?_
      show Steps p.tables e below (T3.setTop (mkF m 20 #[.val (.ref a1), .val (.int p2), .val (.int p3), .val (.int p4)] [(.ref a1)])) _
      refine XS.aloadN X3.here hx rfl (hb hby dD1_20) rfl rfl ?_
      show Steps p.tables e below (T3.setTop (mkF m 21 #[.val (.ref a1), .val (.int p2), .val (.int p3), .val (.int p4)] [(.ref a1), (.ref a1)])) _
      refine st4 _ ?_
      show Steps p.tables e below (T4.setTop (mkF m 24 #[.val (.ref a1), .val (.int p2), .val (.int p3), .val (.int p4)] [(.int (2 : Int32)), (.ref a1)])) _
      refine st5 _ ?_
      show Steps p.tables e below (T5.setTop (mkF m 26 #[.val (.ref a1), .val (.int p2), .val (.int p3), .val (.int p4)] [(.ref si), (.ref a1)])) _
      refine st18 _ ?_
      show Steps p.tables e below (T18.setTop (mkF m 29 #[.val (.ref a1), .val (.int p2), .val (.int p3), .val (.int p4)] [])) _
      refine XS.aloadN X18.here hx rfl (hb hby dD1_29) rfl rfl ?_
      show Steps p.tables e below (T18.setTop (mkF m 30 #[.val (.ref a1), .val (.int p2), .val (.int p3), .val (.int p4)] [(.ref a1)])) _
      refine XS.aloadN X18.here hx rfl (hb hby dD1_30) rfl rfl ?_
      show Steps p.tables e below (T18.setTop (mkF m 31 #[.val (.ref a1), .val (.int p2), .val (.int p3), .val (.int p4)] [(.ref a1), (.ref a1)])) _
      refine st30 _ ?_
      show Steps p.tables e below (T30.setTop (mkF m 34 #[.val (.ref a1), .val (.int p2), .val (.int p3), .val (.int p4)] [(.int (2 : Int32)), (.ref a1)])) _
      refine st31 _ ?_
      show Steps p.tables e below (T31.setTop (mkF m 36 #[.val (.ref a1), .val (.int p2), .val (.int p3), .val (.int p4)] [(.ref fo), (.ref a1)])) _
      refine st46 _ ?_
      show Steps p.tables e below (T46.setTop (mkF m 39 #[.val (.ref a1), .val (.int p2), .val (.int p3), .val (.int p4)] [])) _
      refine XS.aloadN X46.here hx rfl (hb hby dD1_39) rfl rfl ?_
      show Steps p.tables e below (T46.setTop (mkF m 40 #[.val (.ref a1), .val (.int p2), .val (.int p3), .val (.int p4)] [(.ref a1)])) _
      refine XS.aloadN X46.here hx rfl (hb hby dD1_40) rfl rfl ?_
      show Steps p.tables e below (T46.setTop (mkF m 41 #[.val (.ref a1), .val (.int p2), .val (.int p3), .val (.int p4)] [(.ref a1), (.ref a1)])) _
      refine st59 _ ?_
      show Steps p.tables e below (T59.setTop (mkF m 44 #[.val (.ref a1), .val (.int p2), .val (.int p3), .val (.int p4)] [(.int (2 : Int32)), (.ref a1)])) _
      refine st60 _ ?_
      show Steps p.tables e below (T60.setTop (mkF m 46 #[.val (.ref a1), .val (.int p2), .val (.int p3), .val (.int p4)] [(.ref po), (.ref a1)])) _
      refine st77 _ ?_
      show Steps p.tables e below (T77.setTop (mkF m 49 #[.val (.ref a1), .val (.int p2), .val (.int p3), .val (.int p4)] [])) _
      refine XS.aloadN X77.here hx rfl (hb hby dD1_49) rfl rfl ?_
      show Steps p.tables e below (T77.setTop (mkF m 50 #[.val (.ref a1), .val (.int p2), .val (.int p3), .val (.int p4)] [(.ref a1)])) _
      refine XS.aloadN X77.here hx rfl (hb hby dD1_50) rfl rfl ?_
      show Steps p.tables e below (T77.setTop (mkF m 51 #[.val (.ref a1), .val (.int p2), .val (.int p3), .val (.int p4)] [(.ref a1), (.ref a1)])) _
      refine st91 _ ?_
      show Steps p.tables e below (T91.setTop (mkF m 54 #[.val (.ref a1), .val (.int p2), .val (.int p3), .val (.int p4)] [(.int ac), (.ref a1)])) _
      refine XS.aloadN X91.here hx rfl (hb hby dD1_54) rfl rfl ?_
      show Steps p.tables e below (T91.setTop (mkF m 55 #[.val (.ref a1), .val (.int p2), .val (.int p3), .val (.int p4)] [(.ref a1), (.int ac), (.ref a1)])) _
      refine st92 _ ?_
      show Steps p.tables e below (T92.setTop (mkF m 58 #[.val (.ref a1), .val (.int p2), .val (.int p3), .val (.int p4)] [(.int (2 : Int32)), (.int ac), (.ref a1)])) _
      refine XS.imul X92.here hx rfl (hb hby dD1_58) rfl ?_
      show Steps p.tables e below (T92.setTop (mkF m 59 #[.val (.ref a1), .val (.int p2), .val (.int p3), .val (.int p4)] [(.int (ac * (2 : Int32))), (.ref a1)])) _
      refine st93 _ ?_
      show Steps p.tables e below (T93.setTop (mkF m 61 #[.val (.ref a1), .val (.int p2), .val (.int p3), .val (.int p4)] [(.ref ct), (.ref a1)])) _
      refine st112 _ ?_
      show Steps p.tables e below (T112.setTop (mkF m 64 #[.val (.ref a1), .val (.int p2), .val (.int p3), .val (.int p4)] [])) _
      refine XS.aloadN X112.here hx rfl (hb hby dD1_64) rfl rfl ?_
      show Steps p.tables e below (T112.setTop (mkF m 65 #[.val (.ref a1), .val (.int p2), .val (.int p3), .val (.int p4)] [(.ref a1)])) _
      refine XS.aloadN X112.here hx rfl (hb hby dD1_65) rfl rfl ?_
      show Steps p.tables e below (T112.setTop (mkF m 66 #[.val (.ref a1), .val (.int p2), .val (.int p3), .val (.int p4)] [(.ref a1), (.ref a1)])) _
      refine st127 _ ?_
      show Steps p.tables e below (T127.setTop (mkF m 69 #[.val (.ref a1), .val (.int p2), .val (.int p3), .val (.int p4)] [(.int (2 : Int32)), (.ref a1)])) _
      refine st128 _ ?_
      show Steps p.tables e below (T128.setTop (mkF m 71 #[.val (.ref a1), .val (.int p2), .val (.int p3), .val (.int p4)] [(.ref tk), (.ref a1)])) _
      refine st149 _ ?_
      show Steps p.tables e below (T149.setTop (mkF m 74 #[.val (.ref a1), .val (.int p2), .val (.int p3), .val (.int p4)] [])) _
      refine XS.aloadN X149.here hx rfl (hb hby dD1_74) rfl rfl ?_
      show Steps p.tables e below (T149.setTop (mkF m 75 #[.val (.ref a1), .val (.int p2), .val (.int p3), .val (.int p4)] [(.ref a1)])) _
      refine XS.aloadN X149.here hx rfl (hb hby dD1_75) rfl rfl ?_
      show Steps p.tables e below (T149.setTop (mkF m 76 #[.val (.ref a1), .val (.int p2), .val (.int p3), .val (.int p4)] [(.ref a1), (.ref a1)])) _
      refine st165 _ ?_
      show Steps p.tables e below (T165.setTop (mkF m 79 #[.val (.ref a1), .val (.int p2), .val (.int p3), .val (.int p4)] [(.int (2 : Int32)), (.ref a1)])) _
      refine st166 _ ?_
      show Steps p.tables e below (T166.setTop (mkF m 81 #[.val (.ref a1), .val (.int p2), .val (.int p3), .val (.int p4)] [(.ref ho), (.ref a1)])) _
      refine st189 _ ?_
      show Steps p.tables e below (T189.setTop (mkF m 84 #[.val (.ref a1), .val (.int p2), .val (.int p3), .val (.int p4)] [])) _
      refine XS.aloadN X189.here hx rfl (hb hby dD1_84) rfl rfl ?_
      show Steps p.tables e below (T189.setTop (mkF m 85 #[.val (.ref a1), .val (.int p2), .val (.int p3), .val (.int p4)] [(.ref a1)])) _
      refine st206 _ ?_
      show Steps p.tables e below (T206.setTop (mkF m 88 #[.val (.ref a1), .val (.int p2), .val (.int p3), .val (.int p4)] [(.ref si)])) _
      refine XS.aloadN X206.here hx rfl (hb hby dD1_88) rfl rfl ?_
      show Steps p.tables e below (T206.setTop (mkF m 89 #[.val (.ref a1), .val (.int p2), .val (.int p3), .val (.int p4)] [(.ref a1), (.ref si)])) _
      refine st207 _ ?_
      show Steps p.tables e below (T207.setTop (mkF m 92 #[.val (.ref a1), .val (.int p2), .val (.int p3), .val (.int p4)] [(.int (0 : Int32)), (.ref si)])) _
      refine XS.iloadN X207.here hx rfl (hb hby dD1_92) rfl ?_
      show Steps p.tables e below (T207.setTop (mkF m 93 #[.val (.ref a1), .val (.int p2), .val (.int p3), .val (.int p4)] [(.int p2), (.int (0 : Int32)), (.ref si)])) _
      refine st208 _ ?_
      show Steps p.tables e below (T208.setTop (mkF m 94 #[.val (.ref a1), .val (.int p2), .val (.int p3), .val (.int p4)] [])) _
      refine XS.aloadN X208.here hx rfl (hb hby dD1_94) rfl rfl ?_
      show Steps p.tables e below (T208.setTop (mkF m 95 #[.val (.ref a1), .val (.int p2), .val (.int p3), .val (.int p4)] [(.ref a1)])) _
      refine st225 _ ?_
      show Steps p.tables e below (T225.setTop (mkF m 98 #[.val (.ref a1), .val (.int p2), .val (.int p3), .val (.int p4)] [(.ref fo)])) _
      refine XS.aloadN X225.here hx rfl (hb hby dD1_98) rfl rfl ?_
      show Steps p.tables e below (T225.setTop (mkF m 99 #[.val (.ref a1), .val (.int p2), .val (.int p3), .val (.int p4)] [(.ref a1), (.ref fo)])) _
      refine st226 _ ?_
      show Steps p.tables e below (T226.setTop (mkF m 102 #[.val (.ref a1), .val (.int p2), .val (.int p3), .val (.int p4)] [(.int (0 : Int32)), (.ref fo)])) _
      refine XS.iloadN X226.here hx rfl (hb hby dD1_102) rfl ?_
      show Steps p.tables e below (T226.setTop (mkF m 103 #[.val (.ref a1), .val (.int p2), .val (.int p3), .val (.int p4)] [(.int p3), (.int (0 : Int32)), (.ref fo)])) _
      refine st227 _ ?_
      show Steps p.tables e below (T227.setTop (mkF m 104 #[.val (.ref a1), .val (.int p2), .val (.int p3), .val (.int p4)] [])) _
      refine XS.aloadN X227.here hx rfl (hb hby dD1_104) rfl rfl ?_
      show Steps p.tables e below (T227.setTop (mkF m 105 #[.val (.ref a1), .val (.int p2), .val (.int p3), .val (.int p4)] [(.ref a1)])) _
      refine st244 _ ?_
      show Steps p.tables e below (T244.setTop (mkF m 108 #[.val (.ref a1), .val (.int p2), .val (.int p3), .val (.int p4)] [(.ref po)])) _
      refine XS.aloadN X244.here hx rfl (hb hby dD1_108) rfl rfl ?_
      show Steps p.tables e below (T244.setTop (mkF m 109 #[.val (.ref a1), .val (.int p2), .val (.int p3), .val (.int p4)] [(.ref a1), (.ref po)])) _
      refine st245 _ ?_
      show Steps p.tables e below (T245.setTop (mkF m 112 #[.val (.ref a1), .val (.int p2), .val (.int p3), .val (.int p4)] [(.int (0 : Int32)), (.ref po)])) _
      refine XS.iloadN X245.here hx rfl (hb hby dD1_112) rfl ?_
      show Steps p.tables e below (T245.setTop (mkF m 113 #[.val (.ref a1), .val (.int p2), .val (.int p3), .val (.int p4)] [(.int p4), (.int (0 : Int32)), (.ref po)])) _
      refine st246 _ ?_
      show Steps p.tables e below (T246.setTop (mkF m 114 #[.val (.ref a1), .val (.int p2), .val (.int p3), .val (.int p4)] [])) _
      refine XS.aloadN X246.here hx rfl (hb hby dD1_114) rfl rfl ?_
      show Steps p.tables e below (T246.setTop (mkF m 115 #[.val (.ref a1), .val (.int p2), .val (.int p3), .val (.int p4)] [(.ref a1)])) _
      refine st263 _ ?_
      show Steps p.tables e below (T263.setTop (mkF m 118 #[.val (.ref a1), .val (.int p2), .val (.int p3), .val (.int p4)] [(.ref tk)])) _
      refine XS.aloadN X263.here hx rfl (hb hby dD1_118) rfl rfl ?_
      show Steps p.tables e below (T263.setTop (mkF m 119 #[.val (.ref a1), .val (.int p2), .val (.int p3), .val (.int p4)] [(.ref a1), (.ref tk)])) _
      refine st264 _ ?_
      show Steps p.tables e below (T264.setTop (mkF m 122 #[.val (.ref a1), .val (.int p2), .val (.int p3), .val (.int p4)] [(.int (0 : Int32)), (.ref tk)])) _
      refine XS.iconst X264.here hx rfl (hb hby dD1_122) ?_
      show Steps p.tables e below (T264.setTop (mkF m 123 #[.val (.ref a1), .val (.int p2), .val (.int p3), .val (.int p4)] [(.int (0 : Int32)), (.int (0 : Int32)), (.ref tk)])) _
      refine st265 _ ?_
      show Steps p.tables e below (T265.setTop (mkF m 124 #[.val (.ref a1), .val (.int p2), .val (.int p3), .val (.int p4)] [])) _
      refine XS.aloadN X265.here hx rfl (hb hby dD1_124) rfl rfl ?_
      show Steps p.tables e below (T265.setTop (mkF m 125 #[.val (.ref a1), .val (.int p2), .val (.int p3), .val (.int p4)] [(.ref a1)])) _
      refine XS.dup X265.here hx rfl (hb hby dD1_125) rfl rfl ?_
      show Steps p.tables e below (T265.setTop (mkF m 126 #[.val (.ref a1), .val (.int p2), .val (.int p3), .val (.int p4)] [(.ref a1), (.ref a1)])) _
      refine st282 _ ?_
      show Steps p.tables e below (T282.setTop (mkF m 129 #[.val (.ref a1), .val (.int p2), .val (.int p3), .val (.int p4)] [(.int (0 : Int32)), (.ref a1)])) _
      refine XS.iconst X282.here hx rfl (hb hby dD1_129) ?_
      show Steps p.tables e below (T282.setTop (mkF m 130 #[.val (.ref a1), .val (.int p2), .val (.int p3), .val (.int p4)] [(.int (1 : Int32)), (.int (0 : Int32)), (.ref a1)])) _
      refine XS.iadd X282.here hx rfl (hb hby dD1_130) rfl ?_
      show Steps p.tables e below (T282.setTop (mkF m 131 #[.val (.ref a1), .val (.int p2), .val (.int p3), .val (.int p4)] [(.int ((0 : Int32) + (1 : Int32))), (.ref a1)])) _
      refine st283 _ ?_
      show Steps p.tables e below (T283.setTop (mkF m 134 #[.val (.ref a1), .val (.int p2), .val (.int p3), .val (.int p4)] [])) _
      refine XS.aloadN X283.here hx rfl (hb hby dD1_134) rfl rfl ?_
      show Steps p.tables e below (T283.setTop (mkF m 135 #[.val (.ref a1), .val (.int p2), .val (.int p3), .val (.int p4)] [(.ref a1)])) _
      refine XS.dup X283.here hx rfl (hb hby dD1_135) rfl rfl ?_
      show Steps p.tables e below (T283.setTop (mkF m 136 #[.val (.ref a1), .val (.int p2), .val (.int p3), .val (.int p4)] [(.ref a1), (.ref a1)])) _
      refine st300 _ ?_
      show Steps p.tables e below (T300.setTop (mkF m 139 #[.val (.ref a1), .val (.int p2), .val (.int p3), .val (.int p4)] [(.int (0 : Int32)), (.ref a1)])) _
      refine XS.iconst X300.here hx rfl (hb hby dD1_139) ?_
      show Steps p.tables e below (T300.setTop (mkF m 140 #[.val (.ref a1), .val (.int p2), .val (.int p3), .val (.int p4)] [(.int (1 : Int32)), (.int (0 : Int32)), (.ref a1)])) _
      refine XS.iadd X300.here hx rfl (hb hby dD1_140) rfl ?_
      show Steps p.tables e below (T300.setTop (mkF m 141 #[.val (.ref a1), .val (.int p2), .val (.int p3), .val (.int p4)] [(.int ((0 : Int32) + (1 : Int32))), (.ref a1)])) _
      refine st301 _ ?_
      show Steps p.tables e below (T301.setTop (mkF m 144 #[.val (.ref a1), .val (.int p2), .val (.int p3), .val (.int p4)] [])) _
      exact k_)
  have f319 : Fld Z h301 a1 "com/example/traceloom/traceloom/discovery/Candidates" "size" "I" (.int (1 : Int32)) := (show ((0 : Int32) + (1 : Int32)) = (1 : Int32) from by decide) ▸ f305
  have f320 : Fld Z h301 a1 "com/example/traceloom/traceloom/discovery/Candidates" "left" "I" (.int (1 : Int32)) := (show ((0 : Int32) + (1 : Int32)) = (1 : Int32) from by decide) ▸ Fw301
  obtain ⟨fs, hr, hrun, hended, hW, hsame⟩ := X301.leave (v := none) (fun _ => rfl)
  refine ⟨_, _, pre318 _ ?_, hrun, hended, _, _, rfl, ?_, ⟨_, rfl⟩, hW, hsame.mono (by decide) (by decide)⟩
  · exact X301.returnOut hx Bd.returns (hb hby dD1_144) hr
  · show QD1 Z a1 p2 p3 p4 ac ak h0 n0 _ T301.heap _
    rw [e301]
    exact ⟨rfl, N301, K301, si, fo, po, tk, f303, f319, f320, f306, f307, f308, f310, ⟨_, f312⟩, ⟨_, f313⟩, ⟨_, f314⟩, f316, gg5, gg31, gg60, gg128, ne6, ne32, ne61, ne129, ne33, ne62, ne130, ne63, ne131, ne132, sz5, sz31, sz60, sz128⟩
theorem dD2_0 : decode prog_18_method_7_code 0 = .ok (.aload_n 0, 1) := by decide +kernel
theorem dD2_1 : decode prog_18_method_7_code 1 = .ok (.getfield 50, 3) := by decide +kernel
theorem dD2_4 : decode prog_18_method_7_code 4 = .ok (.aload_n 0, 1) := by decide +kernel
theorem dD2_5 : decode prog_18_method_7_code 5 = .ok (.getfield 13, 3) := by decide +kernel
theorem dD2_8 : decode prog_18_method_7_code 8 = .ok (.if_icmp .ne 4, 3) := by decide +kernel
theorem dD2_12 : decode prog_18_method_7_code 12 = .ok (.aload_n 0, 1) := by decide +kernel
theorem dD2_13 : decode prog_18_method_7_code 13 = .ok (.getfield 20, 3) := by decide +kernel
theorem dD2_16 : decode prog_18_method_7_code 16 = .ok (.ifnonnull 68, 3) := by decide +kernel
theorem dD2_84 : decode prog_18_method_7_code 84 = .ok (.aload_n 0, 1) := by decide +kernel
theorem dD2_85 : decode prog_18_method_7_code 85 = .ok (.getfield 20, 3) := by decide +kernel
theorem dD2_88 : decode prog_18_method_7_code 88 = .ok (.aload_n 0, 1) := by decide +kernel
theorem dD2_89 : decode prog_18_method_7_code 89 = .ok (.getfield 50, 3) := by decide +kernel
theorem dD2_92 : decode prog_18_method_7_code 92 = .ok (.iload_n 1, 1) := by decide +kernel
theorem dD2_93 : decode prog_18_method_7_code 93 = .ok (.iastore, 1) := by decide +kernel
theorem dD2_94 : decode prog_18_method_7_code 94 = .ok (.aload_n 0, 1) := by decide +kernel
theorem dD2_95 : decode prog_18_method_7_code 95 = .ok (.getfield 29, 3) := by decide +kernel
theorem dD2_98 : decode prog_18_method_7_code 98 = .ok (.aload_n 0, 1) := by decide +kernel
theorem dD2_99 : decode prog_18_method_7_code 99 = .ok (.getfield 50, 3) := by decide +kernel
theorem dD2_102 : decode prog_18_method_7_code 102 = .ok (.iload_n 2, 1) := by decide +kernel
theorem dD2_103 : decode prog_18_method_7_code 103 = .ok (.iastore, 1) := by decide +kernel
theorem dD2_104 : decode prog_18_method_7_code 104 = .ok (.aload_n 0, 1) := by decide +kernel
theorem dD2_105 : decode prog_18_method_7_code 105 = .ok (.getfield 32, 3) := by decide +kernel
theorem dD2_108 : decode prog_18_method_7_code 108 = .ok (.aload_n 0, 1) := by decide +kernel
theorem dD2_109 : decode prog_18_method_7_code 109 = .ok (.getfield 50, 3) := by decide +kernel
theorem dD2_112 : decode prog_18_method_7_code 112 = .ok (.iload_n 3, 1) := by decide +kernel
theorem dD2_113 : decode prog_18_method_7_code 113 = .ok (.iastore, 1) := by decide +kernel
theorem dD2_114 : decode prog_18_method_7_code 114 = .ok (.aload_n 0, 1) := by decide +kernel
theorem dD2_115 : decode prog_18_method_7_code 115 = .ok (.getfield 41, 3) := by decide +kernel
theorem dD2_118 : decode prog_18_method_7_code 118 = .ok (.aload_n 0, 1) := by decide +kernel
theorem dD2_119 : decode prog_18_method_7_code 119 = .ok (.getfield 50, 3) := by decide +kernel
theorem dD2_122 : decode prog_18_method_7_code 122 = .ok (.iconst 0, 1) := by decide +kernel
theorem dD2_123 : decode prog_18_method_7_code 123 = .ok (.bastore, 1) := by decide +kernel
theorem dD2_124 : decode prog_18_method_7_code 124 = .ok (.aload_n 0, 1) := by decide +kernel
theorem dD2_125 : decode prog_18_method_7_code 125 = .ok (.dup, 1) := by decide +kernel
theorem dD2_126 : decode prog_18_method_7_code 126 = .ok (.getfield 50, 3) := by decide +kernel
theorem dD2_129 : decode prog_18_method_7_code 129 = .ok (.iconst 1, 1) := by decide +kernel
theorem dD2_130 : decode prog_18_method_7_code 130 = .ok (.iadd, 1) := by decide +kernel
theorem dD2_131 : decode prog_18_method_7_code 131 = .ok (.putfield 50, 3) := by decide +kernel
theorem dD2_134 : decode prog_18_method_7_code 134 = .ok (.aload_n 0, 1) := by decide +kernel
theorem dD2_135 : decode prog_18_method_7_code 135 = .ok (.dup, 1) := by decide +kernel
theorem dD2_136 : decode prog_18_method_7_code 136 = .ok (.getfield 56, 3) := by decide +kernel
theorem dD2_139 : decode prog_18_method_7_code 139 = .ok (.iconst 1, 1) := by decide +kernel
theorem dD2_140 : decode prog_18_method_7_code 140 = .ok (.iadd, 1) := by decide +kernel
theorem dD2_141 : decode prog_18_method_7_code 141 = .ok (.putfield 56, 3) := by decide +kernel
theorem dD2_144 : decode prog_18_method_7_code 144 = .ok (.return_, 1) := by decide +kernel
theorem pnD2 : plainName "com/example/traceloom/traceloom/discovery/Candidates" = true := by first | (simp [plainName, overriddenIn]; done) | decide +kernel
theorem efD2 (m : MethodId) (a1 : Addr) (p2 : Int32) (p3 : Int32) (p4 : Int32) : entryFrame m #[(.ref a1), (.int p2), (.int p3), (.int p4)] 4 = mkF m 0 #[.val (.ref a1), .val (.int p2), .val (.int p3), .val (.int p4)] [] := by first | (simp [entryFrame, mkF, argsToLocals, Value.category]; done) | rfl
def QD2 (Z : State) (a1 : Addr) (p2 p3 p4 : Int32) (si fo po tk : Addr) (fsi ffo fpo tf : Nat → Value) (h0 : Heap) (n0 : Nat) (v : Option Value) (h : Heap) (L : List Loc) : Prop := v = none ∧ Fr n0 L ∧ Keep h0 h [a1, si, fo, po, tk] ∧ Fld Z h a1 "com/example/traceloom/traceloom/discovery/Candidates" "capacity" "I" (.int (2 : Int32)) ∧ Fld Z h a1 "com/example/traceloom/traceloom/discovery/Candidates" "size" "I" (.int (2 : Int32)) ∧ Fld Z h a1 "com/example/traceloom/traceloom/discovery/Candidates" "left" "I" (.int (2 : Int32)) ∧ Fld Z h a1 "com/example/traceloom/traceloom/discovery/Candidates" "stateIndexes" "[I" (.ref si) ∧ Fld Z h a1 "com/example/traceloom/traceloom/discovery/Candidates" "followers" "[I" (.ref fo) ∧ Fld Z h a1 "com/example/traceloom/traceloom/discovery/Candidates" "positions" "[I" (.ref po) ∧ Fld Z h a1 "com/example/traceloom/traceloom/discovery/Candidates" "taken" "[Z" (.ref tk) ∧ (∃ f, OArr Z h si .int 2 f) ∧ (∃ f, OArr Z h fo .int 2 f) ∧ (∃ f, OArr Z h po .int 2 f) ∧ OArr Z h tk .boolean 2 (oUpd tf 1 (.int ((0 : Int32) &&& 1)))
set_option maxRecDepth 65536 in
set_option maxHeartbeats 40000000 in
theorem rmD2 (l : Launch) (Z : State) (a0 : Array Value) (hw : ∀ d ∈ tables_1, d.before a0 Z = true) (ws : List Jvm.Cond) (a1 : Addr) (p2 p3 p4 : Int32) (si fo po tk : Addr) (fsi ffo fpo tf : Nat → Value) (h0 : Heap) (n0 : Nat) (Z0 : n0 ≤ h0.size) (E1 : Exa Z h0 a1 "com/example/traceloom/traceloom/discovery/Candidates") (F1 : Fld Z h0 a1 "com/example/traceloom/traceloom/discovery/Candidates" "capacity" "I" (.int (2 : Int32))) (F2 : Fld Z h0 a1 "com/example/traceloom/traceloom/discovery/Candidates" "size" "I" (.int (1 : Int32))) (F3 : Fld Z h0 a1 "com/example/traceloom/traceloom/discovery/Candidates" "left" "I" (.int (1 : Int32))) (F4 : Fld Z h0 a1 "com/example/traceloom/traceloom/discovery/Candidates" "stateIndexes" "[I" (.ref si)) (F5 : Fld Z h0 a1 "com/example/traceloom/traceloom/discovery/Candidates" "followers" "[I" (.ref fo)) (F6 : Fld Z h0 a1 "com/example/traceloom/traceloom/discovery/Candidates" "positions" "[I" (.ref po)) (F7 : Fld Z h0 a1 "com/example/traceloom/traceloom/discovery/Candidates" "taken" "[Z" (.ref tk)) (A0 : OArr Z h0 si .int 2 fsi) (A1 : OArr Z h0 fo .int 2 ffo) (A2 : OArr Z h0 po .int 2 fpo) (At : OArr Z h0 tk .boolean 2 tf) (g_a1 : n0 ≤ a1) (g_si : n0 ≤ si) (g_fo : n0 ≤ fo) (g_po : n0 ≤ po) (g_tk : n0 ≤ tk) (ne_a1_si : a1 ≠ si) (ne_a1_fo : a1 ≠ fo) (ne_a1_po : a1 ≠ po) (ne_a1_tk : a1 ≠ tk) (ne_si_fo : si ≠ fo) (ne_si_po : si ≠ po) (ne_si_tk : si ≠ tk) (ne_fo_po : fo ≠ po) (ne_fo_tk : fo ≠ tk) (ne_po_tk : po ≠ tk) :
    MetFree l (⟨"com/example/traceloom/traceloom/discovery/Candidates", "add", "(III)V"⟩ : MethodName) (head1 (Jvm.Cond.code (⟨"com/example/traceloom/traceloom/discovery/Candidates", "add", "(III)V"⟩ : MethodName) prog_18_method_7_code 4 none :: ws) ({ frames := 0, cells := 0, slots := 0, locals := 0 } : Room)) (fun a U => a = #[(.ref a1), (.int p2), (.int p3), (.int p4)] ∧ Z.Warmed39 U.vm ∧ U.heap = h0) (fun _ _ _ _ _ => True) (fun _ U o U' => ∃ v L, o = .returned v ∧ QD2 Z a1 p2 p3 p4 si fo po tk fsi ffo fpo tf h0 n0 v U'.heap L ∧ FrameEnd U o U' L ({ frames := 0, cells := 0, slots := 0, locals := 0 } : Room).cells ({ frames := 0, cells := 0, slots := 0, locals := 0 } : Room).slots) := by
  refine MetFree.of_bodySF (plainFor_of_name pnD2) hisR ?_
  intro p e s m args below meth c s₁ Bd hml0 hP hK
  obtain ⟨rfl, hZ, hh⟩ := hP
  have hx := Bd.exec
  have hby := Bd.bytes
  have hml : c.maxLocals = 4 := hml0
  have hown : s.vm.findClass "com/example/traceloom/traceloom/discovery/Candidates" = some m.cls := findClass_of_methodNamed Bd.named
  have hnm := (name_of_methodNamed Bd.named Bd.method).1
  have X0 : Stand p l e ({ frames := 0, cells := 0, slots := 0, locals := 0 } : Room) s m #[(.ref a1), (.int p2), (.int p3), (.int p4)] below meth c s₁ [] 0 0 := Stand.of_body Bd
  have e0 : s₁.heap = h0 := by rw [← hh, Bd.state]; rfl
  have N0 := Fr.nil n0
  have pre0 : ∀ t, Steps p.tables e below (s₁.setTop (mkF m 0 #[.val (.ref a1), .val (.int p2), .val (.int p3), .val (.int p4)] [])) t → Steps p.tables e below (s₁.setTop (entryFrame m #[(.ref a1), (.int p2), (.int p3), (.int p4)] 4)) t := fun t k => castTop (efD2 m a1 p2 p3 p4) k
  obtain ⟨T1, X1, e1, st1⟩ := getF X0 hx hZ hown (host := "") (Or.inl (hw _ (List.mem_of_getElem? (i := 66) rfl))) Via.refl e0 F2 (g := (mkF m 1 #[.val (.ref a1), .val (.int p2), .val (.int p3), .val (.int p4)] [(.ref a1)])) rfl rfl (hb hby dD2_1)
  obtain ⟨T2, X2, e2, st2⟩ := getF X1 hx hZ hown (host := "") (Or.inl (hw _ (List.mem_of_getElem? (i := 57) rfl))) Via.refl e1 F1 (g := (mkF m 5 #[.val (.ref a1), .val (.int p2), .val (.int p3), .val (.int p4)] [(.ref a1), (.int (1 : Int32))])) rfl rfl (hb hby dD2_5)
  obtain ⟨T3, X3, e3, st3⟩ := getF X2 hx hZ hown (host := "") (Or.inl (hw _ (List.mem_of_getElem? (i := 68) rfl))) Via.refl e2 F4 (g := (mkF m 13 #[.val (.ref a1), .val (.int p2), .val (.int p3), .val (.int p4)] [(.ref a1)])) rfl rfl (hb hby dD2_13)
  obtain ⟨T4, X4, e4, st4⟩ := getF X3 hx hZ hown (host := "") (Or.inl (hw _ (List.mem_of_getElem? (i := 68) rfl))) Via.refl e3 F4 (g := (mkF m 85 #[.val (.ref a1), .val (.int p2), .val (.int p3), .val (.int p4)] [(.ref a1)])) rfl rfl (hb hby dD2_85)
  obtain ⟨T5, X5, e5, st5⟩ := getF X4 hx hZ hown (host := "") (Or.inl (hw _ (List.mem_of_getElem? (i := 66) rfl))) Via.refl e4 F2 (g := (mkF m 89 #[.val (.ref a1), .val (.int p2), .val (.int p3), .val (.int p4)] [(.ref a1), (.ref si)])) rfl rfl (hb hby dD2_89)
  obtain ⟨T6, h6, X6, e6, W6, A6, st6⟩ := oStI X5 hx hZ e5 A0 (k := 1) rfl (by decide) (g := (mkF m 93 #[.val (.ref a1), .val (.int p2), .val (.int p3), .val (.int p4)] [(.int p2), (.int (1 : Int32)), (.ref si)])) rfl rfl (hb hby dD2_93)
  have f7 := E1.wr W6
  have f8 := F1.other W6 (Or.inl ne_a1_si)
  have f9 := F2.other W6 (Or.inl ne_a1_si)
  have f10 := F3.other W6 (Or.inl ne_a1_si)
  have f11 := F4.other W6 (Or.inl ne_a1_si)
  have f12 := F5.other W6 (Or.inl ne_a1_si)
  have f13 := F6.other W6 (Or.inl ne_a1_si)
  have f14 := F7.other W6 (Or.inl ne_a1_si)
  have f15 := A1.other W6 (Ne.symm ne_si_fo)
  have f16 := A2.other W6 (Ne.symm ne_si_po)
  have f17 := At.other W6 (Ne.symm ne_si_tk)
  have N6 := Fr.snoc X6 N0 g_si
  have K6 := (Keep.refl h0 [a1, si, fo, po, tk]).wr W6 (Or.inl (List.mem_of_getElem? (i := 1) rfl))
  have Z6 : n0 ≤ h6.size := Nat.le_trans Z0 (Keep.of_wr W6).1
  obtain ⟨T18, X18, e18, st18⟩ := getF X6 hx hZ hown (host := "") (Or.inl (hw _ (List.mem_of_getElem? (i := 70) rfl))) Via.refl e6 f12 (g := (mkF m 95 #[.val (.ref a1), .val (.int p2), .val (.int p3), .val (.int p4)] [(.ref a1)])) rfl rfl (hb hby dD2_95)
  obtain ⟨T19, X19, e19, st19⟩ := getF X18 hx hZ hown (host := "") (Or.inl (hw _ (List.mem_of_getElem? (i := 66) rfl))) Via.refl e18 f9 (g := (mkF m 99 #[.val (.ref a1), .val (.int p2), .val (.int p3), .val (.int p4)] [(.ref a1), (.ref fo)])) rfl rfl (hb hby dD2_99)
  obtain ⟨T20, h20, X20, e20, W20, A20, st20⟩ := oStI X19 hx hZ e19 f15 (k := 1) rfl (by decide) (g := (mkF m 103 #[.val (.ref a1), .val (.int p2), .val (.int p3), .val (.int p4)] [(.int p3), (.int (1 : Int32)), (.ref fo)])) rfl rfl (hb hby dD2_103)
  have f21 := f7.wr W20
  have f22 := f8.other W20 (Or.inl ne_a1_fo)
  have f23 := f9.other W20 (Or.inl ne_a1_fo)
  have f24 := f10.other W20 (Or.inl ne_a1_fo)
  have f25 := f11.other W20 (Or.inl ne_a1_fo)
  have f26 := f12.other W20 (Or.inl ne_a1_fo)
  have f27 := f13.other W20 (Or.inl ne_a1_fo)
  have f28 := f14.other W20 (Or.inl ne_a1_fo)
  have f29 := A6.other W20 ne_si_fo
  have f30 := f16.other W20 (Ne.symm ne_fo_po)
  have f31 := f17.other W20 (Ne.symm ne_fo_tk)
  have N20 := Fr.snoc X20 N6 g_fo
  have K20 := K6.wr W20 (Or.inl (List.mem_of_getElem? (i := 2) rfl))
  have Z20 : n0 ≤ h20.size := Nat.le_trans Z6 (Keep.of_wr W20).1
  obtain ⟨T32, X32, e32, st32⟩ := getF X20 hx hZ hown (host := "") (Or.inl (hw _ (List.mem_of_getElem? (i := 72) rfl))) Via.refl e20 f27 (g := (mkF m 105 #[.val (.ref a1), .val (.int p2), .val (.int p3), .val (.int p4)] [(.ref a1)])) rfl rfl (hb hby dD2_105)
  obtain ⟨T33, X33, e33, st33⟩ := getF X32 hx hZ hown (host := "") (Or.inl (hw _ (List.mem_of_getElem? (i := 66) rfl))) Via.refl e32 f23 (g := (mkF m 109 #[.val (.ref a1), .val (.int p2), .val (.int p3), .val (.int p4)] [(.ref a1), (.ref po)])) rfl rfl (hb hby dD2_109)
  obtain ⟨T34, h34, X34, e34, W34, A34, st34⟩ := oStI X33 hx hZ e33 f30 (k := 1) rfl (by decide) (g := (mkF m 113 #[.val (.ref a1), .val (.int p2), .val (.int p3), .val (.int p4)] [(.int p4), (.int (1 : Int32)), (.ref po)])) rfl rfl (hb hby dD2_113)
  have f35 := f21.wr W34
  have f36 := f22.other W34 (Or.inl ne_a1_po)
  have f37 := f23.other W34 (Or.inl ne_a1_po)
  have f38 := f24.other W34 (Or.inl ne_a1_po)
  have f39 := f25.other W34 (Or.inl ne_a1_po)
  have f40 := f26.other W34 (Or.inl ne_a1_po)
  have f41 := f27.other W34 (Or.inl ne_a1_po)
  have f42 := f28.other W34 (Or.inl ne_a1_po)
  have f43 := f29.other W34 ne_si_po
  have f44 := A20.other W34 ne_fo_po
  have f45 := f31.other W34 (Ne.symm ne_po_tk)
  have N34 := Fr.snoc X34 N20 g_po
  have K34 := K20.wr W34 (Or.inl (List.mem_of_getElem? (i := 3) rfl))
  have Z34 : n0 ≤ h34.size := Nat.le_trans Z20 (Keep.of_wr W34).1
  obtain ⟨T46, X46, e46, st46⟩ := getF X34 hx hZ hown (host := "") (Or.inl (hw _ (List.mem_of_getElem? (i := 78) rfl))) Via.refl e34 f42 (g := (mkF m 115 #[.val (.ref a1), .val (.int p2), .val (.int p3), .val (.int p4)] [(.ref a1)])) rfl rfl (hb hby dD2_115)
  obtain ⟨T47, X47, e47, st47⟩ := getF X46 hx hZ hown (host := "") (Or.inl (hw _ (List.mem_of_getElem? (i := 66) rfl))) Via.refl e46 f37 (g := (mkF m 119 #[.val (.ref a1), .val (.int p2), .val (.int p3), .val (.int p4)] [(.ref a1), (.ref tk)])) rfl rfl (hb hby dD2_119)
  obtain ⟨T48, h48, X48, e48, W48, A48, st48⟩ := oStZ X47 hx hZ e47 f45 (k := 1) rfl (by decide) (g := (mkF m 123 #[.val (.ref a1), .val (.int p2), .val (.int p3), .val (.int p4)] [(.int (0 : Int32)), (.int (1 : Int32)), (.ref tk)])) rfl rfl (hb hby dD2_123)
  have f49 := f35.wr W48
  have f50 := f36.other W48 (Or.inl ne_a1_tk)
  have f51 := f37.other W48 (Or.inl ne_a1_tk)
  have f52 := f38.other W48 (Or.inl ne_a1_tk)
  have f53 := f39.other W48 (Or.inl ne_a1_tk)
  have f54 := f40.other W48 (Or.inl ne_a1_tk)
  have f55 := f41.other W48 (Or.inl ne_a1_tk)
  have f56 := f42.other W48 (Or.inl ne_a1_tk)
  have f57 := f43.other W48 ne_si_tk
  have f58 := f44.other W48 ne_fo_tk
  have f59 := A34.other W48 ne_po_tk
  have N48 := Fr.snoc X48 N34 g_tk
  have K48 := K34.wr W48 (Or.inl (List.mem_of_getElem? (i := 4) rfl))
  have Z48 : n0 ≤ h48.size := Nat.le_trans Z34 (Keep.of_wr W48).1
  obtain ⟨T60, X60, e60, st60⟩ := getF X48 hx hZ hown (host := "") (Or.inl (hw _ (List.mem_of_getElem? (i := 66) rfl))) Via.refl e48 f51 (g := (mkF m 126 #[.val (.ref a1), .val (.int p2), .val (.int p3), .val (.int p4)] [(.ref a1), (.ref a1)])) rfl rfl (hb hby dD2_126)
  obtain ⟨T61, h61, X61, e61, W61, st61⟩ := putF X60 hx hZ hown (host := "") (Or.inl (hw _ (List.mem_of_getElem? (i := 66) rfl))) Via.refl e60 f51 f49 (Or.inl (hw _ (List.mem_of_getElem? (i := 67) rfl))) (hw _ (List.mem_of_getElem? (i := 1) rfl)) (ty := .int) (by decide) rfl rfl (g := (mkF m 131 #[.val (.ref a1), .val (.int p2), .val (.int p3), .val (.int p4)] [(.int ((1 : Int32) + (1 : Int32))), (.ref a1)])) rfl rfl (hb hby dD2_131)
  have Fw61 := f51.same W61
  have f62 := f49.wr W61
  have f63 := f50.other W61 (Or.inr (slot_ne (Or.inr (hw _ (List.mem_of_getElem? (i := 58) rfl))) (Or.inl (hw _ (List.mem_of_getElem? (i := 67) rfl))) (by decide) (t := .int) (t' := .int) (by decide) (by decide)))
  have f64 := f52.other W61 (Or.inr (slot_ne (Or.inl (hw _ (List.mem_of_getElem? (i := 83) rfl))) (Or.inl (hw _ (List.mem_of_getElem? (i := 67) rfl))) (by decide) (t := .int) (t' := .int) (by decide) (by decide)))
  have f65 := f53.other W61 (Or.inr (slot_ne (Or.inl (hw _ (List.mem_of_getElem? (i := 69) rfl))) (Or.inl (hw _ (List.mem_of_getElem? (i := 67) rfl))) (by decide) (t := (.array .int)) (t' := .int) (by decide) (by decide)))
  have f66 := f54.other W61 (Or.inr (slot_ne (Or.inl (hw _ (List.mem_of_getElem? (i := 71) rfl))) (Or.inl (hw _ (List.mem_of_getElem? (i := 67) rfl))) (by decide) (t := (.array .int)) (t' := .int) (by decide) (by decide)))
  have f67 := f55.other W61 (Or.inr (slot_ne (Or.inl (hw _ (List.mem_of_getElem? (i := 73) rfl))) (Or.inl (hw _ (List.mem_of_getElem? (i := 67) rfl))) (by decide) (t := (.array .int)) (t' := .int) (by decide) (by decide)))
  have f68 := f56.other W61 (Or.inr (slot_ne (Or.inl (hw _ (List.mem_of_getElem? (i := 79) rfl))) (Or.inl (hw _ (List.mem_of_getElem? (i := 67) rfl))) (by decide) (t := (.array .boolean)) (t' := .int) (by decide) (by decide)))
  have f69 := f57.other W61 (Ne.symm ne_a1_si)
  have f70 := f58.other W61 (Ne.symm ne_a1_fo)
  have f71 := f59.other W61 (Ne.symm ne_a1_po)
  have f72 := A48.other W61 (Ne.symm ne_a1_tk)
  have N61 := Fr.snoc X61 N48 g_a1
  have K61 := K48.wr W61 (Or.inl (List.mem_of_getElem? (i := 0) rfl))
  have Z61 : n0 ≤ h61.size := Nat.le_trans Z48 (Keep.of_wr W61).1
  obtain ⟨T73, X73, e73, st73⟩ := getF X61 hx hZ hown (host := "") (Or.inl (hw _ (List.mem_of_getElem? (i := 82) rfl))) Via.refl e61 f64 (g := (mkF m 136 #[.val (.ref a1), .val (.int p2), .val (.int p3), .val (.int p4)] [(.ref a1), (.ref a1)])) rfl rfl (hb hby dD2_136)
  obtain ⟨T74, h74, X74, e74, W74, st74⟩ := putF X73 hx hZ hown (host := "") (Or.inl (hw _ (List.mem_of_getElem? (i := 82) rfl))) Via.refl e73 f64 f62 (Or.inl (hw _ (List.mem_of_getElem? (i := 83) rfl))) (hw _ (List.mem_of_getElem? (i := 1) rfl)) (ty := .int) (by decide) rfl rfl (g := (mkF m 141 #[.val (.ref a1), .val (.int p2), .val (.int p3), .val (.int p4)] [(.int ((1 : Int32) + (1 : Int32))), (.ref a1)])) rfl rfl (hb hby dD2_141)
  have Fw74 := f64.same W74
  have f75 := f62.wr W74
  have f76 := f63.other W74 (Or.inr (slot_ne (Or.inr (hw _ (List.mem_of_getElem? (i := 58) rfl))) (Or.inl (hw _ (List.mem_of_getElem? (i := 83) rfl))) (by decide) (t := .int) (t' := .int) (by decide) (by decide)))
  have f77 := Fw61.other W74 (Or.inr (slot_ne (Or.inl (hw _ (List.mem_of_getElem? (i := 67) rfl))) (Or.inl (hw _ (List.mem_of_getElem? (i := 83) rfl))) (by decide) (t := .int) (t' := .int) (by decide) (by decide)))
  have f78 := f65.other W74 (Or.inr (slot_ne (Or.inl (hw _ (List.mem_of_getElem? (i := 69) rfl))) (Or.inl (hw _ (List.mem_of_getElem? (i := 83) rfl))) (by decide) (t := (.array .int)) (t' := .int) (by decide) (by decide)))
  have f79 := f66.other W74 (Or.inr (slot_ne (Or.inl (hw _ (List.mem_of_getElem? (i := 71) rfl))) (Or.inl (hw _ (List.mem_of_getElem? (i := 83) rfl))) (by decide) (t := (.array .int)) (t' := .int) (by decide) (by decide)))
  have f80 := f67.other W74 (Or.inr (slot_ne (Or.inl (hw _ (List.mem_of_getElem? (i := 73) rfl))) (Or.inl (hw _ (List.mem_of_getElem? (i := 83) rfl))) (by decide) (t := (.array .int)) (t' := .int) (by decide) (by decide)))
  have f81 := f68.other W74 (Or.inr (slot_ne (Or.inl (hw _ (List.mem_of_getElem? (i := 79) rfl))) (Or.inl (hw _ (List.mem_of_getElem? (i := 83) rfl))) (by decide) (t := (.array .boolean)) (t' := .int) (by decide) (by decide)))
  have f82 := f69.other W74 (Ne.symm ne_a1_si)
  have f83 := f70.other W74 (Ne.symm ne_a1_fo)
  have f84 := f71.other W74 (Ne.symm ne_a1_po)
  have f85 := f72.other W74 (Ne.symm ne_a1_tk)
  have N74 := Fr.snoc X74 N61 g_a1
  have K74 := K61.wr W74 (Or.inl (List.mem_of_getElem? (i := 0) rfl))
  have Z74 : n0 ≤ h74.size := Nat.le_trans Z61 (Keep.of_wr W74).1
  have pre86 : ∀ t, Steps p.tables e below (T74.setTop (mkF m 144 #[.val (.ref a1), .val (.int p2), .val (.int p3), .val (.int p4)] [])) t → Steps p.tables e below (s₁.setTop (entryFrame m #[(.ref a1), (.int p2), (.int p3), (.int p4)] 4)) t := fun t_ k_ => pre0 t_ (by
      refine XS.aloadN X0.here hx rfl (hb hby dD2_0) rfl rfl ?_
      show Steps p.tables e below (s₁.setTop (mkF m 1 #[.val (.ref a1), .val (.int p2), .val (.int p3), .val (.int p4)] [(.ref a1)])) _
      refine st1 _ ?_
      show Steps p.tables e below (T1.setTop (mkF m 4 #[.val (.ref a1), .val (.int p2), .val (.int p3), .val (.int p4)] [(.int (1 : Int32))])) _
      refine XS.aloadN X1.here hx rfl (hb hby dD2_4) rfl rfl ?_
      show Steps p.tables e below (T1.setTop (mkF m 5 #[.val (.ref a1), .val (.int p2), .val (.int p3), .val (.int p4)] [(.ref a1), (.int (1 : Int32))])) _
      refine st2 _ ?_
      show Steps p.tables e below (T2.setTop (mkF m 8 #[.val (.ref a1), .val (.int p2), .val (.int p3), .val (.int p4)] [(.int (2 : Int32)), (.int (1 : Int32))])) _
      refine XS.icmpYes X2.here hx rfl (pc0 := 8) (pc' := 12) rfl (hb hby dD2_8) rfl (feq (by decide : ¬ ((1 : Int32) = (2 : Int32)))).2 (by decide) (by decide) ?_
      show Steps p.tables e below (T2.setTop (mkF m 12 #[.val (.ref a1), .val (.int p2), .val (.int p3), .val (.int p4)] [])) _
      refine XS.aloadN X2.here hx rfl (hb hby dD2_12) rfl rfl ?_
      show Steps p.tables e below (T2.setTop (mkF m 13 #[.val (.ref a1), .val (.int p2), .val (.int p3), .val (.int p4)] [(.ref a1)])) _
      refine st3 _ ?_
      show Steps p.tables e below (T3.setTop (mkF m 16 #[.val (.ref a1), .val (.int p2), .val (.int p3), .val (.int p4)] [(.ref si)])) _
      refine XS.ifnonnullYes X3.here hx rfl (pc0 := 16) (pc' := 84) rfl (hb hby dD2_16) rfl (by decide) (by decide) ?_
      show Steps p.tables e below (T3.setTop (mkF m 84 #[.val (.ref a1), .val (.int p2), .val (.int p3), .val (.int p4)] [])) _
      refine XS.aloadN X3.here hx rfl (hb hby dD2_84) rfl rfl ?_
      show Steps p.tables e below (T3.setTop (mkF m 85 #[.val (.ref a1), .val (.int p2), .val (.int p3), .val (.int p4)] [(.ref a1)])) _
      refine st4 _ ?_
      show Steps p.tables e below (T4.setTop (mkF m 88 #[.val (.ref a1), .val (.int p2), .val (.int p3), .val (.int p4)] [(.ref si)])) _
      refine XS.aloadN X4.here hx rfl (hb hby dD2_88) rfl rfl ?_
      show Steps p.tables e below (T4.setTop (mkF m 89 #[.val (.ref a1), .val (.int p2), .val (.int p3), .val (.int p4)] [(.ref a1), (.ref si)])) _
      refine st5 _ ?_
      show Steps p.tables e below (T5.setTop (mkF m 92 #[.val (.ref a1), .val (.int p2), .val (.int p3), .val (.int p4)] [(.int (1 : Int32)), (.ref si)])) _
      refine XS.iloadN X5.here hx rfl (hb hby dD2_92) rfl ?_
      show Steps p.tables e below (T5.setTop (mkF m 93 #[.val (.ref a1), .val (.int p2), .val (.int p3), .val (.int p4)] [(.int p2), (.int (1 : Int32)), (.ref si)])) _
      refine st6 _ ?_
      show Steps p.tables e below (T6.setTop (mkF m 94 #[.val (.ref a1), .val (.int p2), .val (.int p3), .val (.int p4)] [])) _
      refine XS.aloadN X6.here hx rfl (hb hby dD2_94) rfl rfl ?_
      show Steps p.tables e below (T6.setTop (mkF m 95 #[.val (.ref a1), .val (.int p2), .val (.int p3), .val (.int p4)] [(.ref a1)])) _
      refine st18 _ ?_
      show Steps p.tables e below (T18.setTop (mkF m 98 #[.val (.ref a1), .val (.int p2), .val (.int p3), .val (.int p4)] [(.ref fo)])) _
      refine XS.aloadN X18.here hx rfl (hb hby dD2_98) rfl rfl ?_
      show Steps p.tables e below (T18.setTop (mkF m 99 #[.val (.ref a1), .val (.int p2), .val (.int p3), .val (.int p4)] [(.ref a1), (.ref fo)])) _
      refine st19 _ ?_
      show Steps p.tables e below (T19.setTop (mkF m 102 #[.val (.ref a1), .val (.int p2), .val (.int p3), .val (.int p4)] [(.int (1 : Int32)), (.ref fo)])) _
      refine XS.iloadN X19.here hx rfl (hb hby dD2_102) rfl ?_
      show Steps p.tables e below (T19.setTop (mkF m 103 #[.val (.ref a1), .val (.int p2), .val (.int p3), .val (.int p4)] [(.int p3), (.int (1 : Int32)), (.ref fo)])) _
      refine st20 _ ?_
      show Steps p.tables e below (T20.setTop (mkF m 104 #[.val (.ref a1), .val (.int p2), .val (.int p3), .val (.int p4)] [])) _
      refine XS.aloadN X20.here hx rfl (hb hby dD2_104) rfl rfl ?_
      show Steps p.tables e below (T20.setTop (mkF m 105 #[.val (.ref a1), .val (.int p2), .val (.int p3), .val (.int p4)] [(.ref a1)])) _
      refine st32 _ ?_
      show Steps p.tables e below (T32.setTop (mkF m 108 #[.val (.ref a1), .val (.int p2), .val (.int p3), .val (.int p4)] [(.ref po)])) _
      refine XS.aloadN X32.here hx rfl (hb hby dD2_108) rfl rfl ?_
      show Steps p.tables e below (T32.setTop (mkF m 109 #[.val (.ref a1), .val (.int p2), .val (.int p3), .val (.int p4)] [(.ref a1), (.ref po)])) _
      refine st33 _ ?_
      show Steps p.tables e below (T33.setTop (mkF m 112 #[.val (.ref a1), .val (.int p2), .val (.int p3), .val (.int p4)] [(.int (1 : Int32)), (.ref po)])) _
      refine XS.iloadN X33.here hx rfl (hb hby dD2_112) rfl ?_
      show Steps p.tables e below (T33.setTop (mkF m 113 #[.val (.ref a1), .val (.int p2), .val (.int p3), .val (.int p4)] [(.int p4), (.int (1 : Int32)), (.ref po)])) _
      refine st34 _ ?_
      show Steps p.tables e below (T34.setTop (mkF m 114 #[.val (.ref a1), .val (.int p2), .val (.int p3), .val (.int p4)] [])) _
      refine XS.aloadN X34.here hx rfl (hb hby dD2_114) rfl rfl ?_
      show Steps p.tables e below (T34.setTop (mkF m 115 #[.val (.ref a1), .val (.int p2), .val (.int p3), .val (.int p4)] [(.ref a1)])) _
      refine st46 _ ?_
      show Steps p.tables e below (T46.setTop (mkF m 118 #[.val (.ref a1), .val (.int p2), .val (.int p3), .val (.int p4)] [(.ref tk)])) _
      refine XS.aloadN X46.here hx rfl (hb hby dD2_118) rfl rfl ?_
      show Steps p.tables e below (T46.setTop (mkF m 119 #[.val (.ref a1), .val (.int p2), .val (.int p3), .val (.int p4)] [(.ref a1), (.ref tk)])) _
      refine st47 _ ?_
      show Steps p.tables e below (T47.setTop (mkF m 122 #[.val (.ref a1), .val (.int p2), .val (.int p3), .val (.int p4)] [(.int (1 : Int32)), (.ref tk)])) _
      refine XS.iconst X47.here hx rfl (hb hby dD2_122) ?_
      show Steps p.tables e below (T47.setTop (mkF m 123 #[.val (.ref a1), .val (.int p2), .val (.int p3), .val (.int p4)] [(.int (0 : Int32)), (.int (1 : Int32)), (.ref tk)])) _
      refine st48 _ ?_
      show Steps p.tables e below (T48.setTop (mkF m 124 #[.val (.ref a1), .val (.int p2), .val (.int p3), .val (.int p4)] [])) _
      refine XS.aloadN X48.here hx rfl (hb hby dD2_124) rfl rfl ?_
      show Steps p.tables e below (T48.setTop (mkF m 125 #[.val (.ref a1), .val (.int p2), .val (.int p3), .val (.int p4)] [(.ref a1)])) _
      refine XS.dup X48.here hx rfl (hb hby dD2_125) rfl rfl ?_
      show Steps p.tables e below (T48.setTop (mkF m 126 #[.val (.ref a1), .val (.int p2), .val (.int p3), .val (.int p4)] [(.ref a1), (.ref a1)])) _
      refine st60 _ ?_
      show Steps p.tables e below (T60.setTop (mkF m 129 #[.val (.ref a1), .val (.int p2), .val (.int p3), .val (.int p4)] [(.int (1 : Int32)), (.ref a1)])) _
      refine XS.iconst X60.here hx rfl (hb hby dD2_129) ?_
      show Steps p.tables e below (T60.setTop (mkF m 130 #[.val (.ref a1), .val (.int p2), .val (.int p3), .val (.int p4)] [(.int (1 : Int32)), (.int (1 : Int32)), (.ref a1)])) _
      refine XS.iadd X60.here hx rfl (hb hby dD2_130) rfl ?_
      show Steps p.tables e below (T60.setTop (mkF m 131 #[.val (.ref a1), .val (.int p2), .val (.int p3), .val (.int p4)] [(.int ((1 : Int32) + (1 : Int32))), (.ref a1)])) _
      refine st61 _ ?_
      show Steps p.tables e below (T61.setTop (mkF m 134 #[.val (.ref a1), .val (.int p2), .val (.int p3), .val (.int p4)] [])) _
      refine XS.aloadN X61.here hx rfl (hb hby dD2_134) rfl rfl ?_
      show Steps p.tables e below (T61.setTop (mkF m 135 #[.val (.ref a1), .val (.int p2), .val (.int p3), .val (.int p4)] [(.ref a1)])) _
      refine XS.dup X61.here hx rfl (hb hby dD2_135) rfl rfl ?_
      show Steps p.tables e below (T61.setTop (mkF m 136 #[.val (.ref a1), .val (.int p2), .val (.int p3), .val (.int p4)] [(.ref a1), (.ref a1)])) _
      refine st73 _ ?_
      show Steps p.tables e below (T73.setTop (mkF m 139 #[.val (.ref a1), .val (.int p2), .val (.int p3), .val (.int p4)] [(.int (1 : Int32)), (.ref a1)])) _
      refine XS.iconst X73.here hx rfl (hb hby dD2_139) ?_
      show Steps p.tables e below (T73.setTop (mkF m 140 #[.val (.ref a1), .val (.int p2), .val (.int p3), .val (.int p4)] [(.int (1 : Int32)), (.int (1 : Int32)), (.ref a1)])) _
      refine XS.iadd X73.here hx rfl (hb hby dD2_140) rfl ?_
      show Steps p.tables e below (T73.setTop (mkF m 141 #[.val (.ref a1), .val (.int p2), .val (.int p3), .val (.int p4)] [(.int ((1 : Int32) + (1 : Int32))), (.ref a1)])) _
      refine st74 _ ?_
      show Steps p.tables e below (T74.setTop (mkF m 144 #[.val (.ref a1), .val (.int p2), .val (.int p3), .val (.int p4)] [])) _
      exact k_)
  have f87 : Fld Z h74 a1 "com/example/traceloom/traceloom/discovery/Candidates" "size" "I" (.int (2 : Int32)) := (show ((1 : Int32) + (1 : Int32)) = (2 : Int32) from by decide) ▸ f77
  have f88 : Fld Z h74 a1 "com/example/traceloom/traceloom/discovery/Candidates" "left" "I" (.int (2 : Int32)) := (show ((1 : Int32) + (1 : Int32)) = (2 : Int32) from by decide) ▸ Fw74
  obtain ⟨fs, hr, hrun, hended, hW, hsame⟩ := X74.leave (v := none) (fun _ => rfl)
  refine ⟨_, _, pre86 _ ?_, hrun, hended, _, _, rfl, ?_, ⟨_, rfl⟩, hW, hsame.mono (by decide) (by decide)⟩
  · exact X74.returnOut hx Bd.returns (hb hby dD2_144) hr
  · show QD2 Z a1 p2 p3 p4 si fo po tk fsi ffo fpo tf h0 n0 _ T74.heap _
    rw [e74]
    exact ⟨rfl, N74, K74, f76, f87, f88, f78, f79, f80, f81, ⟨_, f82⟩, ⟨_, f83⟩, ⟨_, f84⟩, f85⟩
theorem dTK_0 : decode prog_18_method_13_code 0 = .ok (.aload_n 0, 1) := by decide +kernel
theorem dTK_1 : decode prog_18_method_13_code 1 = .ok (.getfield 41, 3) := by decide +kernel
theorem dTK_4 : decode prog_18_method_13_code 4 = .ok (.iload_n 1, 1) := by decide +kernel
theorem dTK_5 : decode prog_18_method_13_code 5 = .ok (.iconst 1, 1) := by decide +kernel
theorem dTK_6 : decode prog_18_method_13_code 6 = .ok (.bastore, 1) := by decide +kernel
theorem dTK_7 : decode prog_18_method_13_code 7 = .ok (.aload_n 0, 1) := by decide +kernel
theorem dTK_8 : decode prog_18_method_13_code 8 = .ok (.dup, 1) := by decide +kernel
theorem dTK_9 : decode prog_18_method_13_code 9 = .ok (.getfield 56, 3) := by decide +kernel
theorem dTK_12 : decode prog_18_method_13_code 12 = .ok (.iconst 1, 1) := by decide +kernel
theorem dTK_13 : decode prog_18_method_13_code 13 = .ok (.isub, 1) := by decide +kernel
theorem dTK_14 : decode prog_18_method_13_code 14 = .ok (.putfield 56, 3) := by decide +kernel
theorem dTK_17 : decode prog_18_method_13_code 17 = .ok (.return_, 1) := by decide +kernel
theorem pnTK : plainName "com/example/traceloom/traceloom/discovery/Candidates" = true := by first | (simp [plainName, overriddenIn]; done) | decide +kernel
theorem efTK (m : MethodId) (a1 : Addr) (p2 : Int32) : entryFrame m #[(.ref a1), (.int p2)] 2 = mkF m 0 #[.val (.ref a1), .val (.int p2)] [] := by first | (simp [entryFrame, mkF, argsToLocals, Value.category]; done) | rfl
def QTK (Z : State) (a1 : Addr) (p2 : Int32) (k : Nat) (sz lf : Int32) (tk : Addr) (tf : Nat → Value) (h0 : Heap) (n0 : Nat) (v : Option Value) (h : Heap) (L : List Loc) : Prop := v = none ∧ Fr n0 L ∧ Keep h0 h [tk, a1] ∧ Fld Z h a1 "com/example/traceloom/traceloom/discovery/Candidates" "size" "I" (.int sz) ∧ Fld Z h a1 "com/example/traceloom/traceloom/discovery/Candidates" "left" "I" (.int (lf - (1 : Int32))) ∧ Fld Z h a1 "com/example/traceloom/traceloom/discovery/Candidates" "taken" "[Z" (.ref tk) ∧ OArr Z h tk .boolean 2 (oUpd tf k (.int ((1 : Int32) &&& 1)))
set_option maxRecDepth 65536 in
set_option maxHeartbeats 40000000 in
theorem rmTK (l : Launch) (Z : State) (a0 : Array Value) (hw : ∀ d ∈ tables_1, d.before a0 Z = true) (ws : List Jvm.Cond) (a1 : Addr) (p2 : Int32) (k : Nat) (sz lf : Int32) (tk : Addr) (tf : Nat → Value) (h0 : Heap) (n0 : Nat) (Z0 : n0 ≤ h0.size) (E1 : Exa Z h0 a1 "com/example/traceloom/traceloom/discovery/Candidates") (F2 : Fld Z h0 a1 "com/example/traceloom/traceloom/discovery/Candidates" "size" "I" (.int sz)) (F3 : Fld Z h0 a1 "com/example/traceloom/traceloom/discovery/Candidates" "left" "I" (.int lf)) (F7 : Fld Z h0 a1 "com/example/traceloom/traceloom/discovery/Candidates" "taken" "[Z" (.ref tk)) (At : OArr Z h0 tk .boolean 2 tf) (g_a1 : n0 ≤ a1) (g_tk : n0 ≤ tk) (ne_a1_tk : a1 ≠ tk) (hk : p2.toInt = (k : Int)) (hk2 : k < 2) :
    MetFree l (⟨"com/example/traceloom/traceloom/discovery/Candidates", "take", "(I)V"⟩ : MethodName) (head1 (Jvm.Cond.code (⟨"com/example/traceloom/traceloom/discovery/Candidates", "take", "(I)V"⟩ : MethodName) prog_18_method_13_code 2 none :: ws) ({ frames := 0, cells := 0, slots := 0, locals := 0 } : Room)) (fun a U => a = #[(.ref a1), (.int p2)] ∧ Z.Warmed39 U.vm ∧ U.heap = h0) (fun _ _ _ _ _ => True) (fun _ U o U' => ∃ v L, o = .returned v ∧ QTK Z a1 p2 k sz lf tk tf h0 n0 v U'.heap L ∧ FrameEnd U o U' L ({ frames := 0, cells := 0, slots := 0, locals := 0 } : Room).cells ({ frames := 0, cells := 0, slots := 0, locals := 0 } : Room).slots) := by
  refine MetFree.of_bodySF (plainFor_of_name pnTK) hisR ?_
  intro p e s m args below meth c s₁ Bd hml0 hP hK
  obtain ⟨rfl, hZ, hh⟩ := hP
  have hx := Bd.exec
  have hby := Bd.bytes
  have hml : c.maxLocals = 2 := hml0
  have hown : s.vm.findClass "com/example/traceloom/traceloom/discovery/Candidates" = some m.cls := findClass_of_methodNamed Bd.named
  have hnm := (name_of_methodNamed Bd.named Bd.method).1
  have X0 : Stand p l e ({ frames := 0, cells := 0, slots := 0, locals := 0 } : Room) s m #[(.ref a1), (.int p2)] below meth c s₁ [] 0 0 := Stand.of_body Bd
  have e0 : s₁.heap = h0 := by rw [← hh, Bd.state]; rfl
  have N0 := Fr.nil n0
  have pre0 : ∀ t, Steps p.tables e below (s₁.setTop (mkF m 0 #[.val (.ref a1), .val (.int p2)] [])) t → Steps p.tables e below (s₁.setTop (entryFrame m #[(.ref a1), (.int p2)] 2)) t := fun t k => castTop (efTK m a1 p2) k
  obtain ⟨T1, X1, e1, st1⟩ := getF X0 hx hZ hown (host := "") (Or.inl (hw _ (List.mem_of_getElem? (i := 78) rfl))) Via.refl e0 F7 (g := (mkF m 1 #[.val (.ref a1), .val (.int p2)] [(.ref a1)])) rfl rfl (hb hby dTK_1)
  obtain ⟨T2, h2, X2, e2, W2, A2, st2⟩ := oStZ X1 hx hZ e1 At (k := k) hk hk2 (g := (mkF m 6 #[.val (.ref a1), .val (.int p2)] [(.int (1 : Int32)), (.int p2), (.ref tk)])) rfl rfl (hb hby dTK_6)
  have f3 := E1.wr W2
  have f4 := F2.other W2 (Or.inl ne_a1_tk)
  have f5 := F3.other W2 (Or.inl ne_a1_tk)
  have f6 := F7.other W2 (Or.inl ne_a1_tk)
  have N2 := Fr.snoc X2 N0 g_tk
  have K2 := (Keep.refl h0 [tk, a1]).wr W2 (Or.inl (List.mem_of_getElem? (i := 0) rfl))
  have Z2 : n0 ≤ h2.size := Nat.le_trans Z0 (Keep.of_wr W2).1
  obtain ⟨T7, X7, e7, st7⟩ := getF X2 hx hZ hown (host := "") (Or.inl (hw _ (List.mem_of_getElem? (i := 82) rfl))) Via.refl e2 f5 (g := (mkF m 9 #[.val (.ref a1), .val (.int p2)] [(.ref a1), (.ref a1)])) rfl rfl (hb hby dTK_9)
  obtain ⟨T8, h8, X8, e8, W8, st8⟩ := putF X7 hx hZ hown (host := "") (Or.inl (hw _ (List.mem_of_getElem? (i := 82) rfl))) Via.refl e7 f5 f3 (Or.inl (hw _ (List.mem_of_getElem? (i := 83) rfl))) (hw _ (List.mem_of_getElem? (i := 1) rfl)) (ty := .int) (by decide) rfl rfl (g := (mkF m 14 #[.val (.ref a1), .val (.int p2)] [(.int (lf - (1 : Int32))), (.ref a1)])) rfl rfl (hb hby dTK_14)
  have Fw8 := f5.same W8
  have f9 := f3.wr W8
  have f10 := f4.other W8 (Or.inr (slot_ne (Or.inl (hw _ (List.mem_of_getElem? (i := 67) rfl))) (Or.inl (hw _ (List.mem_of_getElem? (i := 83) rfl))) (by decide) (t := .int) (t' := .int) (by decide) (by decide)))
  have f11 := f6.other W8 (Or.inr (slot_ne (Or.inl (hw _ (List.mem_of_getElem? (i := 79) rfl))) (Or.inl (hw _ (List.mem_of_getElem? (i := 83) rfl))) (by decide) (t := (.array .boolean)) (t' := .int) (by decide) (by decide)))
  have f12 := A2.other W8 (Ne.symm ne_a1_tk)
  have N8 := Fr.snoc X8 N2 g_a1
  have K8 := K2.wr W8 (Or.inl (List.mem_of_getElem? (i := 1) rfl))
  have Z8 : n0 ≤ h8.size := Nat.le_trans Z2 (Keep.of_wr W8).1
  have pre13 : ∀ t, Steps p.tables e below (T8.setTop (mkF m 17 #[.val (.ref a1), .val (.int p2)] [])) t → Steps p.tables e below (s₁.setTop (entryFrame m #[(.ref a1), (.int p2)] 2)) t := fun t_ k_ => pre0 t_ (by
      refine XS.aloadN X0.here hx rfl (hb hby dTK_0) rfl rfl ?_
      show Steps p.tables e below (s₁.setTop (mkF m 1 #[.val (.ref a1), .val (.int p2)] [(.ref a1)])) _
      refine st1 _ ?_
      show Steps p.tables e below (T1.setTop (mkF m 4 #[.val (.ref a1), .val (.int p2)] [(.ref tk)])) _
      refine XS.iloadN X1.here hx rfl (hb hby dTK_4) rfl ?_
      show Steps p.tables e below (T1.setTop (mkF m 5 #[.val (.ref a1), .val (.int p2)] [(.int p2), (.ref tk)])) _
      refine XS.iconst X1.here hx rfl (hb hby dTK_5) ?_
      show Steps p.tables e below (T1.setTop (mkF m 6 #[.val (.ref a1), .val (.int p2)] [(.int (1 : Int32)), (.int p2), (.ref tk)])) _
      refine st2 _ ?_
      show Steps p.tables e below (T2.setTop (mkF m 7 #[.val (.ref a1), .val (.int p2)] [])) _
      refine XS.aloadN X2.here hx rfl (hb hby dTK_7) rfl rfl ?_
      show Steps p.tables e below (T2.setTop (mkF m 8 #[.val (.ref a1), .val (.int p2)] [(.ref a1)])) _
      refine XS.dup X2.here hx rfl (hb hby dTK_8) rfl rfl ?_
      show Steps p.tables e below (T2.setTop (mkF m 9 #[.val (.ref a1), .val (.int p2)] [(.ref a1), (.ref a1)])) _
      refine st7 _ ?_
      show Steps p.tables e below (T7.setTop (mkF m 12 #[.val (.ref a1), .val (.int p2)] [(.int lf), (.ref a1)])) _
      refine XS.iconst X7.here hx rfl (hb hby dTK_12) ?_
      show Steps p.tables e below (T7.setTop (mkF m 13 #[.val (.ref a1), .val (.int p2)] [(.int (1 : Int32)), (.int lf), (.ref a1)])) _
      refine XS.isub X7.here hx rfl (hb hby dTK_13) rfl ?_
      show Steps p.tables e below (T7.setTop (mkF m 14 #[.val (.ref a1), .val (.int p2)] [(.int (lf - (1 : Int32))), (.ref a1)])) _
      refine st8 _ ?_
      show Steps p.tables e below (T8.setTop (mkF m 17 #[.val (.ref a1), .val (.int p2)] [])) _
      exact k_)
  obtain ⟨fs, hr, hrun, hended, hW, hsame⟩ := X8.leave (v := none) (fun _ => rfl)
  refine ⟨_, _, pre13 _ ?_, hrun, hended, _, _, rfl, ?_, ⟨_, rfl⟩, hW, hsame.mono (by decide) (by decide)⟩
  · exact X8.returnOut hx Bd.returns (hb hby dTK_17) hr
  · show QTK Z a1 p2 k sz lf tk tf h0 n0 _ T8.heap _
    rw [e8]
    exact ⟨rfl, N8, K8, f10, Fw8, f11, f12⟩
theorem dTA_0 : decode prog_18_method_9_code 0 = .ok (.aload_n 0, 1) := by decide +kernel
theorem dTA_1 : decode prog_18_method_9_code 1 = .ok (.getfield 41, 3) := by decide +kernel
theorem dTA_4 : decode prog_18_method_9_code 4 = .ok (.iload_n 1, 1) := by decide +kernel
theorem dTA_5 : decode prog_18_method_9_code 5 = .ok (.baload, 1) := by decide +kernel
theorem dTA_6 : decode prog_18_method_9_code 6 = .ok (.ireturn, 1) := by decide +kernel
theorem pnTA : plainName "com/example/traceloom/traceloom/discovery/Candidates" = true := by first | (simp [plainName, overriddenIn]; done) | decide +kernel
theorem efTA (m : MethodId) (a1 : Addr) (p2 : Int32) : entryFrame m #[(.ref a1), (.int p2)] 2 = mkF m 0 #[.val (.ref a1), .val (.int p2)] [] := by first | (simp [entryFrame, mkF, argsToLocals, Value.category]; done) | rfl
def QTA (Z : State) (a1 : Addr) (p2 : Int32) (k : Nat) (sz lf : Int32) (tk : Addr) (tf : Nat → Value) (z : Int32) (h0 : Heap) (n0 : Nat) (v : Option Value) (h : Heap) (L : List Loc) : Prop := v = some (.int (z &&& 1)) ∧ Fr n0 L ∧ h = h0
set_option maxRecDepth 65536 in
set_option maxHeartbeats 40000000 in
theorem rmTA (l : Launch) (Z : State) (a0 : Array Value) (hw : ∀ d ∈ tables_1, d.before a0 Z = true) (ws : List Jvm.Cond) (a1 : Addr) (p2 : Int32) (k : Nat) (sz lf : Int32) (tk : Addr) (tf : Nat → Value) (z : Int32) (h0 : Heap) (n0 : Nat) (Z0 : n0 ≤ h0.size) (E1 : Exa Z h0 a1 "com/example/traceloom/traceloom/discovery/Candidates") (F2 : Fld Z h0 a1 "com/example/traceloom/traceloom/discovery/Candidates" "size" "I" (.int sz)) (F3 : Fld Z h0 a1 "com/example/traceloom/traceloom/discovery/Candidates" "left" "I" (.int lf)) (F7 : Fld Z h0 a1 "com/example/traceloom/traceloom/discovery/Candidates" "taken" "[Z" (.ref tk)) (At : OArr Z h0 tk .boolean 2 tf) (g_a1 : n0 ≤ a1) (g_tk : n0 ≤ tk) (ne_a1_tk : a1 ≠ tk) (hk : p2.toInt = (k : Int)) (hk2 : k < 2) (hz : tf k = .int z) :
    MetFree l (⟨"com/example/traceloom/traceloom/discovery/Candidates", "taken", "(I)Z"⟩ : MethodName) (head1 (Jvm.Cond.code (⟨"com/example/traceloom/traceloom/discovery/Candidates", "taken", "(I)Z"⟩ : MethodName) prog_18_method_9_code 2 (some .boolean) :: ws) ({ frames := 0, cells := 0, slots := 0, locals := 0 } : Room)) (fun a U => a = #[(.ref a1), (.int p2)] ∧ Z.Warmed39 U.vm ∧ U.heap = h0) (fun _ _ _ _ _ => True) (fun _ U o U' => ∃ v L, o = .returned v ∧ QTA Z a1 p2 k sz lf tk tf z h0 n0 v U'.heap L ∧ FrameEnd U o U' L ({ frames := 0, cells := 0, slots := 0, locals := 0 } : Room).cells ({ frames := 0, cells := 0, slots := 0, locals := 0 } : Room).slots) := by
  refine MetFree.of_bodySF (plainFor_of_name pnTA) hisR ?_
  intro p e s m args below meth c s₁ Bd hml0 hP hK
  obtain ⟨rfl, hZ, hh⟩ := hP
  have hx := Bd.exec
  have hby := Bd.bytes
  have hml : c.maxLocals = 2 := hml0
  have hown : s.vm.findClass "com/example/traceloom/traceloom/discovery/Candidates" = some m.cls := findClass_of_methodNamed Bd.named
  have hnm := (name_of_methodNamed Bd.named Bd.method).1
  have X0 : Stand p l e ({ frames := 0, cells := 0, slots := 0, locals := 0 } : Room) s m #[(.ref a1), (.int p2)] below meth c s₁ [] 0 0 := Stand.of_body Bd
  have e0 : s₁.heap = h0 := by rw [← hh, Bd.state]; rfl
  have N0 := Fr.nil n0
  have pre0 : ∀ t, Steps p.tables e below (s₁.setTop (mkF m 0 #[.val (.ref a1), .val (.int p2)] [])) t → Steps p.tables e below (s₁.setTop (entryFrame m #[(.ref a1), (.int p2)] 2)) t := fun t k => castTop (efTA m a1 p2) k
  obtain ⟨T1, X1, e1, st1⟩ := getF X0 hx hZ hown (host := "") (Or.inl (hw _ (List.mem_of_getElem? (i := 78) rfl))) Via.refl e0 F7 (g := (mkF m 1 #[.val (.ref a1), .val (.int p2)] [(.ref a1)])) rfl rfl (hb hby dTA_1)
  have pre2 : ∀ t, Steps p.tables e below (T1.setTop (mkF m 6 #[.val (.ref a1), .val (.int p2)] [(.int z)])) t → Steps p.tables e below (s₁.setTop (entryFrame m #[(.ref a1), (.int p2)] 2)) t := fun t_ k_ => pre0 t_ (by
      refine XS.aloadN X0.here hx rfl (hb hby dTA_0) rfl rfl ?_
      show Steps p.tables e below (s₁.setTop (mkF m 1 #[.val (.ref a1), .val (.int p2)] [(.ref a1)])) _
      refine st1 _ ?_
      show Steps p.tables e below (T1.setTop (mkF m 4 #[.val (.ref a1), .val (.int p2)] [(.ref tk)])) _
      refine XS.iloadN X1.here hx rfl (hb hby dTA_4) rfl ?_
      show Steps p.tables e below (T1.setTop (mkF m 5 #[.val (.ref a1), .val (.int p2)] [(.int p2), (.ref tk)])) _
      refine oLdZ X1 hx hZ e1 At (k := k) hk hk2 (v := z) hz (g := (mkF m 5 #[.val (.ref a1), .val (.int p2)] [(.int p2), (.ref tk)])) rfl rfl (hb hby dTA_5) _ ?_
      show Steps p.tables e below (T1.setTop (mkF m 6 #[.val (.ref a1), .val (.int p2)] [(.int z)])) _
      exact k_)
  obtain ⟨fs, hr, hrun, hended, hW, hsame⟩ := X1.leave (v := some (.int (z &&& 1))) (fun h => by rw [Bd.returns] at h; cases h)
  refine ⟨_, _, pre2 _ ?_, hrun, hended, _, _, rfl, ?_, ⟨_, rfl⟩, hW, hsame.mono (by decide) (by decide)⟩
  · exact retN X1 hx (t := .boolean) Bd.returns (by simp) (hb hby dTA_6) hr
  · show QTA Z a1 p2 k sz lf tk tf z h0 n0 _ T1.heap _
    rw [e1]
    exact ⟨rfl, N0, rfl⟩
theorem dIE_0 : decode prog_18_method_4_code 0 = .ok (.aload_n 0, 1) := by decide +kernel
theorem dIE_1 : decode prog_18_method_4_code 1 = .ok (.getfield 56, 3) := by decide +kernel
theorem dIE_4 : decode prog_18_method_4_code 4 = .ok (.ifCond .ne 7, 3) := by decide +kernel
theorem dIE_7 : decode prog_18_method_4_code 7 = .ok (.iconst 1, 1) := by decide +kernel
theorem dIE_8 : decode prog_18_method_4_code 8 = .ok (.goto 4, 3) := by decide +kernel
theorem dIE_11 : decode prog_18_method_4_code 11 = .ok (.iconst 0, 1) := by decide +kernel
theorem dIE_12 : decode prog_18_method_4_code 12 = .ok (.ireturn, 1) := by decide +kernel
theorem pnIE : plainName "com/example/traceloom/traceloom/discovery/Candidates" = true := by first | (simp [plainName, overriddenIn]; done) | decide +kernel
theorem efIE (m : MethodId) (a1 : Addr) : entryFrame m #[(.ref a1)] 1 = mkF m 0 #[.val (.ref a1)] [] := by first | (simp [entryFrame, mkF, argsToLocals, Value.category]; done) | rfl
def QIE (Z : State) (a1 : Addr) (lf : Int32) (h0 : Heap) (n0 : Nat) (v : Option Value) (h : Heap) (L : List Loc) : Prop := v = some (.int (if lf = 0 then 1 else 0)) ∧ Fr n0 L ∧ h = h0
set_option maxRecDepth 65536 in
set_option maxHeartbeats 40000000 in
theorem rmIE (l : Launch) (Z : State) (a0 : Array Value) (hw : ∀ d ∈ tables_1, d.before a0 Z = true) (ws : List Jvm.Cond) (a1 : Addr) (lf : Int32) (h0 : Heap) (n0 : Nat) (Z0 : n0 ≤ h0.size) (F3 : Fld Z h0 a1 "com/example/traceloom/traceloom/discovery/Candidates" "left" "I" (.int lf)) :
    MetFree l (⟨"com/example/traceloom/traceloom/discovery/Candidates", "isEmpty", "()Z"⟩ : MethodName) (head1 (Jvm.Cond.code (⟨"com/example/traceloom/traceloom/discovery/Candidates", "isEmpty", "()Z"⟩ : MethodName) prog_18_method_4_code 1 (some .boolean) :: ws) ({ frames := 0, cells := 0, slots := 0, locals := 0 } : Room)) (fun a U => a = #[(.ref a1)] ∧ Z.Warmed39 U.vm ∧ U.heap = h0) (fun _ _ _ _ _ => True) (fun _ U o U' => ∃ v L, o = .returned v ∧ QIE Z a1 lf h0 n0 v U'.heap L ∧ FrameEnd U o U' L ({ frames := 0, cells := 0, slots := 0, locals := 0 } : Room).cells ({ frames := 0, cells := 0, slots := 0, locals := 0 } : Room).slots) := by
  refine MetFree.of_bodySF (plainFor_of_name pnIE) hisR ?_
  intro p e s m args below meth c s₁ Bd hml0 hP hK
  obtain ⟨rfl, hZ, hh⟩ := hP
  have hx := Bd.exec
  have hby := Bd.bytes
  have hml : c.maxLocals = 1 := hml0
  have hown : s.vm.findClass "com/example/traceloom/traceloom/discovery/Candidates" = some m.cls := findClass_of_methodNamed Bd.named
  have hnm := (name_of_methodNamed Bd.named Bd.method).1
  have X0 : Stand p l e ({ frames := 0, cells := 0, slots := 0, locals := 0 } : Room) s m #[(.ref a1)] below meth c s₁ [] 0 0 := Stand.of_body Bd
  have e0 : s₁.heap = h0 := by rw [← hh, Bd.state]; rfl
  have N0 := Fr.nil n0
  have pre0 : ∀ t, Steps p.tables e below (s₁.setTop (mkF m 0 #[.val (.ref a1)] [])) t → Steps p.tables e below (s₁.setTop (entryFrame m #[(.ref a1)] 1)) t := fun t k => castTop (efIE m a1) k
  obtain ⟨T1, X1, e1, st1⟩ := getF X0 hx hZ hown (host := "") (Or.inl (hw _ (List.mem_of_getElem? (i := 82) rfl))) Via.refl e0 F3 (g := (mkF m 1 #[.val (.ref a1)] [(.ref a1)])) rfl rfl (hb hby dIE_1)
  have pre2 : ∀ t, Steps p.tables e below (T1.setTop (mkF m 4 #[.val (.ref a1)] [(.int lf)])) t → Steps p.tables e below (s₁.setTop (entryFrame m #[(.ref a1)] 1)) t := fun t_ k_ => pre0 t_ (by
      refine XS.aloadN X0.here hx rfl (hb hby dIE_0) rfl rfl ?_
      show Steps p.tables e below (s₁.setTop (mkF m 1 #[.val (.ref a1)] [(.ref a1)])) _
      refine st1 _ ?_
      show Steps p.tables e below (T1.setTop (mkF m 4 #[.val (.ref a1)] [(.int lf)])) _
      exact k_)
  by_cases c4_3 : lf = (0 : Int32)
  · have pre4 : ∀ t, Steps p.tables e below (T1.setTop (mkF m 12 #[.val (.ref a1)] [(.int (1 : Int32))])) t → Steps p.tables e below (s₁.setTop (entryFrame m #[(.ref a1)] 1)) t := fun t_ k_ => pre2 t_ (by
        refine XS.ifNo X1.here hx rfl (hb hby dIE_4) rfl ((if0 _ _).trans (teq c4_3).2) ?_
        show Steps p.tables e below (T1.setTop (mkF m 7 #[.val (.ref a1)] [])) _
        refine XS.iconst X1.here hx rfl (hb hby dIE_7) ?_
        show Steps p.tables e below (T1.setTop (mkF m 8 #[.val (.ref a1)] [(.int (1 : Int32))])) _
        refine XS.goto X1.here hx rfl (pc0 := 8) (pc' := 12) rfl (hb hby dIE_8) (by decide) (by decide) ?_
        show Steps p.tables e below (T1.setTop (mkF m 12 #[.val (.ref a1)] [(.int (1 : Int32))])) _
        exact k_)
    obtain ⟨fs, hr, hrun, hended, hW, hsame⟩ := X1.leave (v := some (.int (1 : Int32))) (fun h => by rw [Bd.returns] at h; cases h)
    refine ⟨_, _, pre4 _ ?_, hrun, hended, _, _, rfl, ?_, ⟨_, rfl⟩, hW, hsame.mono (by decide) (by decide)⟩
    · exact retN X1 hx (t := .boolean) Bd.returns (by simp) (hb hby dIE_12) hr
    · show QIE Z a1 lf h0 n0 _ T1.heap _
      rw [e1]
      exact ⟨by rw [if_pos c4_3], N0, rfl⟩
  · have pre5 : ∀ t, Steps p.tables e below (T1.setTop (mkF m 12 #[.val (.ref a1)] [(.int (0 : Int32))])) t → Steps p.tables e below (s₁.setTop (entryFrame m #[(.ref a1)] 1)) t := fun t_ k_ => pre2 t_ (by
        refine XS.ifYes X1.here hx rfl (pc0 := 4) (pc' := 11) rfl (hb hby dIE_4) rfl ((if0 _ _).trans (feq c4_3).2) (by decide) (by decide) ?_
        show Steps p.tables e below (T1.setTop (mkF m 11 #[.val (.ref a1)] [])) _
        refine XS.iconst X1.here hx rfl (hb hby dIE_11) ?_
        show Steps p.tables e below (T1.setTop (mkF m 12 #[.val (.ref a1)] [(.int (0 : Int32))])) _
        exact k_)
    obtain ⟨fs, hr, hrun, hended, hW, hsame⟩ := X1.leave (v := some (.int (0 : Int32))) (fun h => by rw [Bd.returns] at h; cases h)
    refine ⟨_, _, pre5 _ ?_, hrun, hended, _, _, rfl, ?_, ⟨_, rfl⟩, hW, hsame.mono (by decide) (by decide)⟩
    · exact retN X1 hx (t := .boolean) Bd.returns (by simp) (hb hby dIE_12) hr
    · show QIE Z a1 lf h0 n0 _ T1.heap _
      rw [e1]
      exact ⟨by rw [if_neg c4_3], N0, rfl⟩
theorem dSZ_0 : decode prog_18_method_8_code 0 = .ok (.aload_n 0, 1) := by decide +kernel
theorem dSZ_1 : decode prog_18_method_8_code 1 = .ok (.getfield 50, 3) := by decide +kernel
theorem dSZ_4 : decode prog_18_method_8_code 4 = .ok (.ireturn, 1) := by decide +kernel
theorem pnSZ : plainName "com/example/traceloom/traceloom/discovery/Candidates" = true := by first | (simp [plainName, overriddenIn]; done) | decide +kernel
theorem efSZ (m : MethodId) (a1 : Addr) : entryFrame m #[(.ref a1)] 1 = mkF m 0 #[.val (.ref a1)] [] := by first | (simp [entryFrame, mkF, argsToLocals, Value.category]; done) | rfl
def QSZ (Z : State) (a1 : Addr) (sz : Int32) (h0 : Heap) (n0 : Nat) (v : Option Value) (h : Heap) (L : List Loc) : Prop := v = some (.int sz) ∧ Fr n0 L ∧ h = h0
set_option maxRecDepth 65536 in
set_option maxHeartbeats 40000000 in
theorem rmSZ (l : Launch) (Z : State) (a0 : Array Value) (hw : ∀ d ∈ tables_1, d.before a0 Z = true) (ws : List Jvm.Cond) (a1 : Addr) (sz : Int32) (h0 : Heap) (n0 : Nat) (Z0 : n0 ≤ h0.size) (F2 : Fld Z h0 a1 "com/example/traceloom/traceloom/discovery/Candidates" "size" "I" (.int sz)) :
    MetFree l (⟨"com/example/traceloom/traceloom/discovery/Candidates", "size", "()I"⟩ : MethodName) (head1 (Jvm.Cond.code (⟨"com/example/traceloom/traceloom/discovery/Candidates", "size", "()I"⟩ : MethodName) prog_18_method_8_code 1 (some .int) :: ws) ({ frames := 0, cells := 0, slots := 0, locals := 0 } : Room)) (fun a U => a = #[(.ref a1)] ∧ Z.Warmed39 U.vm ∧ U.heap = h0) (fun _ _ _ _ _ => True) (fun _ U o U' => ∃ v L, o = .returned v ∧ QSZ Z a1 sz h0 n0 v U'.heap L ∧ FrameEnd U o U' L ({ frames := 0, cells := 0, slots := 0, locals := 0 } : Room).cells ({ frames := 0, cells := 0, slots := 0, locals := 0 } : Room).slots) := by
  refine MetFree.of_bodySF (plainFor_of_name pnSZ) hisR ?_
  intro p e s m args below meth c s₁ Bd hml0 hP hK
  obtain ⟨rfl, hZ, hh⟩ := hP
  have hx := Bd.exec
  have hby := Bd.bytes
  have hml : c.maxLocals = 1 := hml0
  have hown : s.vm.findClass "com/example/traceloom/traceloom/discovery/Candidates" = some m.cls := findClass_of_methodNamed Bd.named
  have hnm := (name_of_methodNamed Bd.named Bd.method).1
  have X0 : Stand p l e ({ frames := 0, cells := 0, slots := 0, locals := 0 } : Room) s m #[(.ref a1)] below meth c s₁ [] 0 0 := Stand.of_body Bd
  have e0 : s₁.heap = h0 := by rw [← hh, Bd.state]; rfl
  have N0 := Fr.nil n0
  have pre0 : ∀ t, Steps p.tables e below (s₁.setTop (mkF m 0 #[.val (.ref a1)] [])) t → Steps p.tables e below (s₁.setTop (entryFrame m #[(.ref a1)] 1)) t := fun t k => castTop (efSZ m a1) k
  obtain ⟨T1, X1, e1, st1⟩ := getF X0 hx hZ hown (host := "") (Or.inl (hw _ (List.mem_of_getElem? (i := 66) rfl))) Via.refl e0 F2 (g := (mkF m 1 #[.val (.ref a1)] [(.ref a1)])) rfl rfl (hb hby dSZ_1)
  have pre2 : ∀ t, Steps p.tables e below (T1.setTop (mkF m 4 #[.val (.ref a1)] [(.int sz)])) t → Steps p.tables e below (s₁.setTop (entryFrame m #[(.ref a1)] 1)) t := fun t_ k_ => pre0 t_ (by
      refine XS.aloadN X0.here hx rfl (hb hby dSZ_0) rfl rfl ?_
      show Steps p.tables e below (s₁.setTop (mkF m 1 #[.val (.ref a1)] [(.ref a1)])) _
      refine st1 _ ?_
      show Steps p.tables e below (T1.setTop (mkF m 4 #[.val (.ref a1)] [(.int sz)])) _
      exact k_)
  obtain ⟨fs, hr, hrun, hended, hW, hsame⟩ := X1.leave (v := some (.int sz)) (fun h => by rw [Bd.returns] at h; cases h)
  refine ⟨_, _, pre2 _ ?_, hrun, hended, _, _, rfl, ?_, ⟨_, rfl⟩, hW, hsame.mono (by decide) (by decide)⟩
  · exact retI X1 hx Bd.returns (hb hby dSZ_4) hr
  · show QSZ Z a1 sz h0 n0 _ T1.heap _
    rw [e1]
    exact ⟨rfl, N0, rfl⟩
theorem pd0_0 : parseMethodDescriptor "()V" = some ⟨[], none⟩ := by decide +kernel
theorem pd0_1 : parseMethodDescriptor "(Lcom/example/traceloom/traceloom/discovery/PrefixStates;II)V" = some ⟨[(.object "com/example/traceloom/traceloom/discovery/PrefixStates"), .int, .int], none⟩ := by decide +kernel
theorem pd0_2 : parseMethodDescriptor "(III)V" = some ⟨[.int, .int, .int], none⟩ := by decide +kernel
theorem pd0_3 : parseMethodDescriptor "(I)V" = some ⟨[.int], none⟩ := by decide +kernel
theorem pd0_4 : parseMethodDescriptor "(I)Z" = some ⟨[.int], some .boolean⟩ := by decide +kernel
theorem pd0_5 : parseMethodDescriptor "()Z" = some ⟨[], some .boolean⟩ := by decide +kernel
theorem pd0_6 : parseMethodDescriptor "()I" = some ⟨[], some .int⟩ := by decide +kernel
theorem pn0 : plainName "com/example/traceloom/traceloom/discovery/CandidatesTakePinLaw" = true := by first | (simp [plainName, overriddenIn]; done) | decide +kernel
theorem ef0 (m : MethodId) (p0 : Int32) (p1 : Int32) (p2 : Int32) (p3 : Int32) (p4 : Int32) (p5 : Int32) : entryFrame m #[(.int p0), (.int p1), (.int p2), (.int p3), (.int p4), (.int p5)] maxLocals = mkF m 0 #[.val (.int p0), .val (.int p1), .val (.int p2), .val (.int p3), .val (.int p4), .val (.int p5), .unset, .unset, .unset, .unset, .unset, .unset, .unset, .unset] [] := by first | (simp [entryFrame, mkF, argsToLocals, Value.category, maxLocals]; done) | rfl
def Q0 (Z : State) (p0 p1 p2 p3 p4 p5 : Int32) (de : Addr) (h0 : Heap) (n0 : Nat) (v : Option Value) (h : Heap) (L : List Loc) : Prop := v = some (.int 1) ∧ Fr n0 L
set_option maxRecDepth 65536 in
set_option maxHeartbeats 40000000 in
theorem rm0 (l : Launch) (Z : State) (a0 : Array Value) (hw : ∀ d ∈ tables_1, d.before a0 Z = true) (ws : List Jvm.Cond) (p0 p1 p2 p3 p4 p5 : Int32) (de : Addr) (h0 : Heap) (n0 : Nat) (Z0 : n0 ≤ h0.size) (S0 : Sta Z h0 "java/util/ArrayList" "DEFAULTCAPACITY_EMPTY_ELEMENTDATA" "[Ljava/lang/Object;" (.ref de)) :
    MetFree l x (head1 (Jvm.Cond.code x code maxLocals ret :: ws) room_1) (fun a U => a = #[(.int p0), (.int p1), (.int p2), (.int p3), (.int p4), (.int p5)] ∧ Z.Warmed39 U.vm ∧ U.heap = h0) (fun _ _ _ _ _ => True) (fun _ U o U' => ∃ v L, o = .returned v ∧ Q0 Z p0 p1 p2 p3 p4 p5 de h0 n0 v U'.heap L ∧ FrameEnd U o U' L room_1.cells room_1.slots) := by
  refine MetFree.of_bodySF (plainFor_of_name pn0) hisR ?_
  intro p e s m args below meth c s₁ Bd hml0 hP hK
  obtain ⟨rfl, hZ, hh⟩ := hP
  have hx := Bd.exec
  have hby := Bd.bytes
  have hml : c.maxLocals = 14 := hml0
  have hown : s.vm.findClass "com/example/traceloom/traceloom/discovery/CandidatesTakePinLaw" = some m.cls := findClass_of_methodNamed Bd.named
  have hnm := (name_of_methodNamed Bd.named Bd.method).1
  have X0 : Stand p l e room_1 s m #[(.int p0), (.int p1), (.int p2), (.int p3), (.int p4), (.int p5)] below meth c s₁ [] 0 0 := Stand.of_body Bd
  have e0 : s₁.heap = h0 := by rw [← hh, Bd.state]; rfl
  have N0 := Fr.nil n0
  have pre0 : ∀ t, Steps p.tables e below (s₁.setTop (mkF m 0 #[.val (.int p0), .val (.int p1), .val (.int p2), .val (.int p3), .val (.int p4), .val (.int p5), .unset, .unset, .unset, .unset, .unset, .unset, .unset, .unset] [])) t → Steps p.tables e below (s₁.setTop (entryFrame m #[(.int p0), (.int p1), (.int p2), (.int p3), (.int p4), (.int p5)] maxLocals)) t := fun t k => castTop (ef0 m p0 p1 p2 p3 p4 p5) k
  have pre1 : ∀ t, Steps p.tables e below (s₁.setTop (mkF m 6 #[.val (.int p0), .val (.int p1), .val (.int p2), .val (.int p3), .val (.int p4), .val (.int p5), .val (.int (p4 &&& (1 : Int32))), .unset, .unset, .unset, .unset, .unset, .unset, .unset] [])) t → Steps p.tables e below (s₁.setTop (entryFrame m #[(.int p0), (.int p1), (.int p2), (.int p3), (.int p4), (.int p5)] maxLocals)) t := fun t_ k_ => pre0 t_ (by
      refine XS.iload X0.here hx rfl (hb hby at_0) rfl ?_
      show Steps p.tables e below (s₁.setTop (mkF m 2 #[.val (.int p0), .val (.int p1), .val (.int p2), .val (.int p3), .val (.int p4), .val (.int p5), .unset, .unset, .unset, .unset, .unset, .unset, .unset, .unset] [(.int p4)])) _
      refine XS.iconst X0.here hx rfl (hb hby at_2) ?_
      show Steps p.tables e below (s₁.setTop (mkF m 3 #[.val (.int p0), .val (.int p1), .val (.int p2), .val (.int p3), .val (.int p4), .val (.int p5), .unset, .unset, .unset, .unset, .unset, .unset, .unset, .unset] [(.int (1 : Int32)), (.int p4)])) _
      refine XS.iand X0.here hx rfl (hb hby at_3) rfl ?_
      show Steps p.tables e below (s₁.setTop (mkF m 4 #[.val (.int p0), .val (.int p1), .val (.int p2), .val (.int p3), .val (.int p4), .val (.int p5), .unset, .unset, .unset, .unset, .unset, .unset, .unset, .unset] [(.int (p4 &&& (1 : Int32)))])) _
      refine XS.istore X0.here hx rfl (hb hby at_4) rfl (l' := #[.val (.int p0), .val (.int p1), .val (.int p2), .val (.int p3), .val (.int p4), .val (.int p5), .val (.int (p4 &&& (1 : Int32))), .unset, .unset, .unset, .unset, .unset, .unset, .unset]) rfl ?_
      show Steps p.tables e below (s₁.setTop (mkF m 6 #[.val (.int p0), .val (.int p1), .val (.int p2), .val (.int p3), .val (.int p4), .val (.int p5), .val (.int (p4 &&& (1 : Int32))), .unset, .unset, .unset, .unset, .unset, .unset, .unset] [])) _
      exact k_)
  obtain ⟨fi, e_fi⟩ : ∃ z : Int32, z = (p4 &&& (1 : Int32)) := ⟨_, rfl⟩
  have pre2 : ∀ t, Steps p.tables e below (s₁.setTop (mkF m 6 #[.val (.int p0), .val (.int p1), .val (.int p2), .val (.int p3), .val (.int p4), .val (.int p5), .val (.int fi), .unset, .unset, .unset, .unset, .unset, .unset, .unset] [])) t → Steps p.tables e below (s₁.setTop (entryFrame m #[(.int p0), (.int p1), (.int p2), (.int p3), (.int p4), (.int p5)] maxLocals)) t := by subst e_fi; exact pre1
  have hfi : fi = (0 : Int32) ∨ fi = (1 : Int32) := by rw [e_fi]; exact own_one p4
  obtain ⟨bo3, hv3, pre3⟩ : ∃ (bo3 : Int32), (bo3 = (0 : Int32) ∨ bo3 = (1 : Int32)) ∧ ∀ t, Steps p.tables e below (s₁.setTop (mkF m 18 #[.val (.int p0), .val (.int p1), .val (.int p2), .val (.int p3), .val (.int p4), .val (.int p5), .val (.int fi), .unset, .unset, .unset, .unset, .unset, .unset, .unset] [(.int bo3)])) t → Steps p.tables e below (s₁.setTop (entryFrame m #[(.int p0), (.int p1), (.int p2), (.int p3), (.int p4), (.int p5)] maxLocals)) t := by
    have pre4 : ∀ t, Steps p.tables e below (s₁.setTop (mkF m 10 #[.val (.int p0), .val (.int p1), .val (.int p2), .val (.int p3), .val (.int p4), .val (.int p5), .val (.int fi), .unset, .unset, .unset, .unset, .unset, .unset, .unset] [(.int (p5 &&& (1 : Int32)))])) t → Steps p.tables e below (s₁.setTop (entryFrame m #[(.int p0), (.int p1), (.int p2), (.int p3), (.int p4), (.int p5)] maxLocals)) t := fun t_ k_ => pre2 t_ (by
        refine XS.iload X0.here hx rfl (hb hby at_6) rfl ?_
        show Steps p.tables e below (s₁.setTop (mkF m 8 #[.val (.int p0), .val (.int p1), .val (.int p2), .val (.int p3), .val (.int p4), .val (.int p5), .val (.int fi), .unset, .unset, .unset, .unset, .unset, .unset, .unset] [(.int p5)])) _
        refine XS.iconst X0.here hx rfl (hb hby at_8) ?_
        show Steps p.tables e below (s₁.setTop (mkF m 9 #[.val (.int p0), .val (.int p1), .val (.int p2), .val (.int p3), .val (.int p4), .val (.int p5), .val (.int fi), .unset, .unset, .unset, .unset, .unset, .unset, .unset] [(.int (1 : Int32)), (.int p5)])) _
        refine XS.iand X0.here hx rfl (hb hby at_9) rfl ?_
        show Steps p.tables e below (s₁.setTop (mkF m 10 #[.val (.int p0), .val (.int p1), .val (.int p2), .val (.int p3), .val (.int p4), .val (.int p5), .val (.int fi), .unset, .unset, .unset, .unset, .unset, .unset, .unset] [(.int (p5 &&& (1 : Int32)))])) _
        exact k_)
    by_cases c10_5 : (p5 &&& (1 : Int32)) = (0 : Int32)
    · have pre6 : ∀ t, Steps p.tables e below (s₁.setTop (mkF m 18 #[.val (.int p0), .val (.int p1), .val (.int p2), .val (.int p3), .val (.int p4), .val (.int p5), .val (.int fi), .unset, .unset, .unset, .unset, .unset, .unset, .unset] [(.int (0 : Int32))])) t → Steps p.tables e below (s₁.setTop (entryFrame m #[(.int p0), (.int p1), (.int p2), (.int p3), (.int p4), (.int p5)] maxLocals)) t := fun t_ k_ => pre4 t_ (by
          refine XS.ifYes X0.here hx rfl (pc0 := 10) (pc' := 17) rfl (hb hby at_10) rfl ((if0 _ _).trans (teq c10_5).1) (by decide) (by decide) ?_
          show Steps p.tables e below (s₁.setTop (mkF m 17 #[.val (.int p0), .val (.int p1), .val (.int p2), .val (.int p3), .val (.int p4), .val (.int p5), .val (.int fi), .unset, .unset, .unset, .unset, .unset, .unset, .unset] [])) _
          refine XS.iconst X0.here hx rfl (hb hby at_17) ?_
          show Steps p.tables e below (s₁.setTop (mkF m 18 #[.val (.int p0), .val (.int p1), .val (.int p2), .val (.int p3), .val (.int p4), .val (.int p5), .val (.int fi), .unset, .unset, .unset, .unset, .unset, .unset, .unset] [(.int (0 : Int32))])) _
          exact k_)
      exact ⟨(0 : Int32), Or.inl rfl, pre6⟩
    · have pre7 : ∀ t, Steps p.tables e below (s₁.setTop (mkF m 18 #[.val (.int p0), .val (.int p1), .val (.int p2), .val (.int p3), .val (.int p4), .val (.int p5), .val (.int fi), .unset, .unset, .unset, .unset, .unset, .unset, .unset] [(.int (1 : Int32))])) t → Steps p.tables e below (s₁.setTop (entryFrame m #[(.int p0), (.int p1), (.int p2), (.int p3), (.int p4), (.int p5)] maxLocals)) t := fun t_ k_ => pre4 t_ (by
          refine XS.ifNo X0.here hx rfl (hb hby at_10) rfl ((if0 _ _).trans (feq c10_5).1) ?_
          show Steps p.tables e below (s₁.setTop (mkF m 13 #[.val (.int p0), .val (.int p1), .val (.int p2), .val (.int p3), .val (.int p4), .val (.int p5), .val (.int fi), .unset, .unset, .unset, .unset, .unset, .unset, .unset] [])) _
          refine XS.iconst X0.here hx rfl (hb hby at_13) ?_
          show Steps p.tables e below (s₁.setTop (mkF m 14 #[.val (.int p0), .val (.int p1), .val (.int p2), .val (.int p3), .val (.int p4), .val (.int p5), .val (.int fi), .unset, .unset, .unset, .unset, .unset, .unset, .unset] [(.int (1 : Int32))])) _
          refine XS.goto X0.here hx rfl (pc0 := 14) (pc' := 18) rfl (hb hby at_14) (by decide) (by decide) ?_
          show Steps p.tables e below (s₁.setTop (mkF m 18 #[.val (.int p0), .val (.int p1), .val (.int p2), .val (.int p3), .val (.int p4), .val (.int p5), .val (.int fi), .unset, .unset, .unset, .unset, .unset, .unset, .unset] [(.int (1 : Int32))])) _
          exact k_)
      exact ⟨(1 : Int32), Or.inr rfl, pre7⟩
  have pre8 : ∀ t, Steps p.tables e below (s₁.setTop (mkF m 28 #[.val (.int p0), .val (.int p1), .val (.int p2), .val (.int p3), .val (.int p4), .val (.int p5), .val (.int fi), .val (.int bo3), .val (.int (((p5.toUInt32 >>> ((1 : Int32) &&& 31).toUInt32).toInt32) &&& (3 : Int32))), .unset, .unset, .unset, .unset, .unset] [])) t → Steps p.tables e below (s₁.setTop (entryFrame m #[(.int p0), (.int p1), (.int p2), (.int p3), (.int p4), (.int p5)] maxLocals)) t := fun t_ k_ => pre3 t_ (by
      refine XS.istore X0.here hx rfl (hb hby at_18) rfl (l' := #[.val (.int p0), .val (.int p1), .val (.int p2), .val (.int p3), .val (.int p4), .val (.int p5), .val (.int fi), .val (.int bo3), .unset, .unset, .unset, .unset, .unset, .unset]) rfl ?_
      show Steps p.tables e below (s₁.setTop (mkF m 20 #[.val (.int p0), .val (.int p1), .val (.int p2), .val (.int p3), .val (.int p4), .val (.int p5), .val (.int fi), .val (.int bo3), .unset, .unset, .unset, .unset, .unset, .unset] [])) _
      refine XS.iload X0.here hx rfl (hb hby at_20) rfl ?_
      show Steps p.tables e below (s₁.setTop (mkF m 22 #[.val (.int p0), .val (.int p1), .val (.int p2), .val (.int p3), .val (.int p4), .val (.int p5), .val (.int fi), .val (.int bo3), .unset, .unset, .unset, .unset, .unset, .unset] [(.int p5)])) _
      refine XS.iconst X0.here hx rfl (hb hby at_22) ?_
      show Steps p.tables e below (s₁.setTop (mkF m 23 #[.val (.int p0), .val (.int p1), .val (.int p2), .val (.int p3), .val (.int p4), .val (.int p5), .val (.int fi), .val (.int bo3), .unset, .unset, .unset, .unset, .unset, .unset] [(.int (1 : Int32)), (.int p5)])) _
      refine XS.iushr X0.here hx rfl (hb hby at_23) rfl ?_
      show Steps p.tables e below (s₁.setTop (mkF m 24 #[.val (.int p0), .val (.int p1), .val (.int p2), .val (.int p3), .val (.int p4), .val (.int p5), .val (.int fi), .val (.int bo3), .unset, .unset, .unset, .unset, .unset, .unset] [(.int ((p5.toUInt32 >>> ((1 : Int32) &&& 31).toUInt32).toInt32))])) _
      refine XS.iconst X0.here hx rfl (hb hby at_24) ?_
      show Steps p.tables e below (s₁.setTop (mkF m 25 #[.val (.int p0), .val (.int p1), .val (.int p2), .val (.int p3), .val (.int p4), .val (.int p5), .val (.int fi), .val (.int bo3), .unset, .unset, .unset, .unset, .unset, .unset] [(.int (3 : Int32)), (.int ((p5.toUInt32 >>> ((1 : Int32) &&& 31).toUInt32).toInt32))])) _
      refine XS.iand X0.here hx rfl (hb hby at_25) rfl ?_
      show Steps p.tables e below (s₁.setTop (mkF m 26 #[.val (.int p0), .val (.int p1), .val (.int p2), .val (.int p3), .val (.int p4), .val (.int p5), .val (.int fi), .val (.int bo3), .unset, .unset, .unset, .unset, .unset, .unset] [(.int (((p5.toUInt32 >>> ((1 : Int32) &&& 31).toUInt32).toInt32) &&& (3 : Int32)))])) _
      refine XS.istore X0.here hx rfl (hb hby at_26) rfl (l' := #[.val (.int p0), .val (.int p1), .val (.int p2), .val (.int p3), .val (.int p4), .val (.int p5), .val (.int fi), .val (.int bo3), .val (.int (((p5.toUInt32 >>> ((1 : Int32) &&& 31).toUInt32).toInt32) &&& (3 : Int32))), .unset, .unset, .unset, .unset, .unset]) rfl ?_
      show Steps p.tables e below (s₁.setTop (mkF m 28 #[.val (.int p0), .val (.int p1), .val (.int p2), .val (.int p3), .val (.int p4), .val (.int p5), .val (.int fi), .val (.int bo3), .val (.int (((p5.toUInt32 >>> ((1 : Int32) &&& 31).toUInt32).toInt32) &&& (3 : Int32))), .unset, .unset, .unset, .unset, .unset] [])) _
      exact k_)
  obtain ⟨ac, e_ac⟩ : ∃ z : Int32, z = (((p5.toUInt32 >>> ((1 : Int32) &&& 31).toUInt32).toInt32) &&& (3 : Int32)) := ⟨_, rfl⟩
  have pre9 : ∀ t, Steps p.tables e below (s₁.setTop (mkF m 28 #[.val (.int p0), .val (.int p1), .val (.int p2), .val (.int p3), .val (.int p4), .val (.int p5), .val (.int fi), .val (.int bo3), .val (.int ac), .unset, .unset, .unset, .unset, .unset] [])) t → Steps p.tables e below (s₁.setTop (entryFrame m #[(.int p0), (.int p1), (.int p2), (.int p3), (.int p4), (.int p5)] maxLocals)) t := by subst e_ac; exact pre8
  obtain ⟨ak, hak, hac⟩ := own_three ((p5.toUInt32 >>> ((1 : Int32) &&& 31).toUInt32).toInt32)
  rw [← e_ac] at hac
  obtain ⟨T10, h10, X10, e10, E10, A10, D10, -, st10⟩ := newO X0 hx hZ hown (hw _ (List.mem_of_getElem? (i := 0) rfl)) (hw _ (List.mem_of_getElem? (i := 1) rfl)) (hw _ (List.mem_of_getElem? (i := 2) rfl)) e0 (g := (mkF m 28 #[.val (.int p0), .val (.int p1), .val (.int p2), .val (.int p3), .val (.int p4), .val (.int p5), .val (.int fi), .val (.int bo3), .val (.int ac), .unset, .unset, .unset, .unset, .unset] [])) rfl (hb hby at_28) (by decide) (by decide)
  obtain ⟨cd, g10⟩ : ∃ z, z = h0.size := ⟨_, rfl⟩
  rw [← g10] at A10 D10 st10
  have gg10 : n0 ≤ cd := Nat.le_trans Z0 (Nat.le_of_eq g10.symm)
  have f11 := S0.ext E10
  have Z10 : n0 ≤ h10.size := Nat.le_trans Z0 E10.1
  have f12 : Fld Z h10 cd "com/example/traceloom/traceloom/discovery/Candidates" "states" "Lcom/example/traceloom/traceloom/discovery/PrefixStates;" .null := D10 (Or.inr (hw _ (List.mem_of_getElem? (i := 56) rfl))) (ty := (.object "com/example/traceloom/traceloom/discovery/PrefixStates")) (by decide)
  have f13 : Fld Z h10 cd "com/example/traceloom/traceloom/discovery/Candidates" "capacity" "I" (.int (0 : Int32)) := D10 (Or.inr (hw _ (List.mem_of_getElem? (i := 58) rfl))) (ty := .int) (by decide)
  have f14 : Fld Z h10 cd "com/example/traceloom/traceloom/discovery/Candidates" "activityCount" "I" (.int (0 : Int32)) := D10 (Or.inr (hw _ (List.mem_of_getElem? (i := 60) rfl))) (ty := .int) (by decide)
  have f15 : Fld Z h10 cd "com/example/traceloom/traceloom/discovery/Candidates" "size" "I" (.int (0 : Int32)) := D10 (Or.inl (hw _ (List.mem_of_getElem? (i := 67) rfl))) (ty := .int) (by decide)
  have f16 : Fld Z h10 cd "com/example/traceloom/traceloom/discovery/Candidates" "stateIndexes" "[I" .null := D10 (Or.inl (hw _ (List.mem_of_getElem? (i := 69) rfl))) (ty := (.array .int)) (by decide)
  have f17 : Fld Z h10 cd "com/example/traceloom/traceloom/discovery/Candidates" "followers" "[I" .null := D10 (Or.inl (hw _ (List.mem_of_getElem? (i := 71) rfl))) (ty := (.array .int)) (by decide)
  have f18 : Fld Z h10 cd "com/example/traceloom/traceloom/discovery/Candidates" "positions" "[I" .null := D10 (Or.inl (hw _ (List.mem_of_getElem? (i := 73) rfl))) (ty := (.array .int)) (by decide)
  have f19 : Fld Z h10 cd "com/example/traceloom/traceloom/discovery/Candidates" "counts" "[J" .null := D10 (Or.inl (hw _ (List.mem_of_getElem? (i := 76) rfl))) (ty := (.array .long)) (by decide)
  have f20 : Fld Z h10 cd "com/example/traceloom/traceloom/discovery/Candidates" "taken" "[Z" .null := D10 (Or.inl (hw _ (List.mem_of_getElem? (i := 79) rfl))) (ty := (.array .boolean)) (by decide)
  have f21 : Fld Z h10 cd "com/example/traceloom/traceloom/discovery/Candidates" "holds" "[J" .null := D10 (Or.inl (hw _ (List.mem_of_getElem? (i := 81) rfl))) (ty := (.array .long)) (by decide)
  have f22 : Fld Z h10 cd "com/example/traceloom/traceloom/discovery/Candidates" "left" "I" (.int (0 : Int32)) := D10 (Or.inl (hw _ (List.mem_of_getElem? (i := 83) rfl))) (ty := .int) (by decide)
  obtain ⟨T23, h23, X23, e23, E23, A23, D23, -, st23⟩ := newO X10 hx hZ hown (hw _ (List.mem_of_getElem? (i := 3) rfl)) (hw _ (List.mem_of_getElem? (i := 4) rfl)) (hw _ (List.mem_of_getElem? (i := 5) rfl)) e10 (g := (mkF m 32 #[.val (.int p0), .val (.int p1), .val (.int p2), .val (.int p3), .val (.int p4), .val (.int p5), .val (.int fi), .val (.int bo3), .val (.int ac), .unset, .unset, .unset, .unset, .unset] [(.ref cd), (.ref cd)])) rfl (hb hby at_32) (by decide) (by decide)
  obtain ⟨px, g23⟩ : ∃ z, z = h10.size := ⟨_, rfl⟩
  rw [← g23] at A23 D23 st23
  have ne24 : cd ≠ px := Nat.ne_of_lt (Nat.lt_of_lt_of_le A10.lt (Nat.le_of_eq g23.symm))
  have gg23 : n0 ≤ px := Nat.le_trans Z10 (Nat.le_of_eq g23.symm)
  have f25 := f11.ext E23
  have f26 := A10.ext E23
  have f27 := f12.ext E23
  have f28 := f13.ext E23
  have f29 := f14.ext E23
  have f30 := f15.ext E23
  have f31 := f16.ext E23
  have f32 := f17.ext E23
  have f33 := f18.ext E23
  have f34 := f19.ext E23
  have f35 := f20.ext E23
  have f36 := f21.ext E23
  have f37 := f22.ext E23
  have Z23 : n0 ≤ h23.size := Nat.le_trans Z10 E23.1
  have f38 : Fld Z h23 px "com/example/traceloom/traceloom/discovery/PrefixStates" "states" "Ljava/util/List;" .null := D23 (Or.inr (hw _ (List.mem_of_getElem? (i := 37) rfl))) (ty := (.object "java/util/List")) (by decide)
  have f39 : Fld Z h23 px "com/example/traceloom/traceloom/discovery/PrefixStates" "parents" "[I" .null := D23 (Or.inl (hw _ (List.mem_of_getElem? (i := 40) rfl))) (ty := (.array .int)) (by decide)
  have f40 : Fld Z h23 px "com/example/traceloom/traceloom/discovery/PrefixStates" "lastActivities" "[I" .null := D23 (Or.inl (hw _ (List.mem_of_getElem? (i := 42) rfl))) (ty := (.array .int)) (by decide)
  have f41 : Fld Z h23 px "com/example/traceloom/traceloom/discovery/PrefixStates" "table" "[I" .null := D23 (Or.inl (hw _ (List.mem_of_getElem? (i := 44) rfl))) (ty := (.array .int)) (by decide)
  have f42 : Fld Z h23 px "com/example/traceloom/traceloom/discovery/PrefixStates" "presentActivities" "[I" .null := D23 (Or.inl (hw _ (List.mem_of_getElem? (i := 46) rfl))) (ty := (.array .int)) (by decide)
  have f43 : Fld Z h23 px "com/example/traceloom/traceloom/discovery/PrefixStates" "presentCounts" "[I" .null := D23 (Or.inl (hw _ (List.mem_of_getElem? (i := 48) rfl))) (ty := (.array .int)) (by decide)
  have f44 : Fld Z h23 px "com/example/traceloom/traceloom/discovery/PrefixStates" "presentStarts" "[I" .null := D23 (Or.inl (hw _ (List.mem_of_getElem? (i := 50) rfl))) (ty := (.array .int)) (by decide)
  obtain ⟨_, _, ⟨T45, L45, k45, n45⟩, -, X45, ⟨Lc45, hQ45, l45, y45, z45⟩, st45⟩ := X23.specialBack hx (y := (⟨"com/example/traceloom/traceloom/discovery/PrefixStates", "<init>", "()V"⟩ : MethodName)) rfl hown (mvT hZ (hw _ (List.mem_of_getElem? (i := 6) rfl))) (mvT hZ (hw _ (List.mem_of_getElem? (i := 7) rfl))) (mvT hZ (hw _ (List.mem_of_getElem? (i := 8) rfl))) (by decide) (backOf (W := 3) (rmU4 l Z a0 hw [] px de h23 n0 Z23 A23 f38 f39 f40 f41 f42 f43 f44 gg23 f25) hZ (hw _ (List.mem_of_getElem? (i := 8) rfl)) (hw _ (List.mem_of_getElem? (i := 5) rfl)) (by decide) (by decide)) (g := (mkF m 36 #[.val (.int p0), .val (.int p1), .val (.int p2), .val (.int p3), .val (.int p4), .val (.int p5), .val (.int fi), .val (.int bo3), .val (.int ac), .unset, .unset, .unset, .unset, .unset] [(.ref px), (.ref px), (.ref cd), (.ref cd)])) rfl (by rw [hml]; rfl) (Steps.refl _) (a := px) (argsL := []) (rest := [(.ref px), (.ref cd), (.ref cd)]) (lenOf pd0_0 rfl) rfl (by show 2 * 0 + _ ≤ _; exact Nat.le_of_eq rfl) (hb hby at_36) (fun _ _ => ⟨rfl, e23, (by decide : 2 + 7 ≤ _), (by decide : 21 + 52 ≤ _)⟩)
  dsimp only [Pt.U, Pt.locs, Pt.cells, Pt.slots] at X45 l45 y45 z45 st45 hQ45
  subst l45 y45 z45
  obtain ⟨rfl, N45q, K45⟩ := hQ45
  have N45 := Fr.app N0 N45q
  have f46 := f26.keep K45
  have f47 := f27.keep K45 (ninS ne24 nin0)
  have f48 := f28.keep K45 (ninS ne24 nin0)
  have f49 := f29.keep K45 (ninS ne24 nin0)
  have f50 := f30.keep K45 (ninS ne24 nin0)
  have f51 := f31.keep K45 (ninS ne24 nin0)
  have f52 := f32.keep K45 (ninS ne24 nin0)
  have f53 := f33.keep K45 (ninS ne24 nin0)
  have f54 := f34.keep K45 (ninS ne24 nin0)
  have f55 := f35.keep K45 (ninS ne24 nin0)
  have f56 := f36.keep K45 (ninS ne24 nin0)
  have f57 := f37.keep K45 (ninS ne24 nin0)
  have f58 := A23.keep K45
  have Z45 : n0 ≤ T45.heap.size := Nat.le_trans Z23 K45.1
  obtain ⟨_, _, ⟨T59, L59, k59, n59⟩, -, X59, ⟨Lc59, hQ59, l59, y59, z59⟩, st59⟩ := X45.specialBack hx (y := (⟨"com/example/traceloom/traceloom/discovery/Candidates", "<init>", "(Lcom/example/traceloom/traceloom/discovery/PrefixStates;II)V"⟩ : MethodName)) rfl hown (mvT hZ (hw _ (List.mem_of_getElem? (i := 51) rfl))) (mvT hZ (hw _ (List.mem_of_getElem? (i := 52) rfl))) (mvT hZ (hw _ (List.mem_of_getElem? (i := 53) rfl))) (by decide) (backOf (W := 1) (rmU5 l Z a0 hw [] cd px ((2 : Int32)) ac  T45.heap n0 Z45 f46 f47 f48 f49 f50 f57 f51 f52 f53 f54 f55 f56 gg10) hZ (hw _ (List.mem_of_getElem? (i := 53) rfl)) (hw _ (List.mem_of_getElem? (i := 2) rfl)) (by decide) (by decide)) (g := (mkF m 42 #[.val (.int p0), .val (.int p1), .val (.int p2), .val (.int p3), .val (.int p4), .val (.int p5), .val (.int fi), .val (.int bo3), .val (.int ac), .unset, .unset, .unset, .unset, .unset] [(.int ac), (.int (2 : Int32)), (.ref px), (.ref cd), (.ref cd)])) rfl (by rw [hml]; rfl) (Steps.refl _) (a := cd) (argsL := [(.ref px), (.int (2 : Int32)), (.int ac)]) (rest := [(.ref cd)]) (lenOf pd0_1 rfl) rfl (by show 2 * 0 + _ ≤ _; exact Nat.le_of_eq rfl) (hb hby at_42) (fun _ _ => ⟨rfl, rfl, (by decide : 9 + 0 ≤ _), (by decide : 73 + 0 ≤ _)⟩)
  dsimp only [Pt.U, Pt.locs, Pt.cells, Pt.slots] at X59 l59 y59 z59 st59 hQ59
  subst l59 y59 z59
  obtain ⟨rfl, N59q, K59, Fc59_0, Fc59_1, Fc59_2, Fc59_3, Fc59_4, Fc59_5, Fc59_6, Fc59_7, Fc59_8, Fc59_9⟩ := hQ59
  have N59 := Fr.app N45 N59q
  have f60 := f46.keep K59
  have f61 := f58.keep K59
  have Z59 : n0 ≤ T59.heap.size := Nat.le_trans Z45 K59.1
  obtain ⟨cq62, kq62, q62a, q62b, q62c⟩ := isOf hZ rfl f60
  obtain ⟨_, _, ⟨T62, L62, k62, n62⟩, -, X62, ⟨Lc62, hQ62, l62, y62, z62⟩, st62⟩ := X59.virtualBack hx (y := (⟨"com/example/traceloom/traceloom/discovery/Candidates", "add", "(III)V"⟩ : MethodName)) (z := (⟨"com/example/traceloom/traceloom/discovery/Candidates", "add", "(III)V"⟩ : MethodName)) hown (mvT hZ (hw _ (List.mem_of_getElem? (i := 61) rfl))) (mvT hZ (hw _ (List.mem_of_getElem? (i := 62) rfl))) (notFace_of_selects (args := #[]) (mvT hZ (hw _ (List.mem_of_getElem? (i := 64) rfl)))) (mvT hZ (hw _ (List.mem_of_getElem? (i := 64) rfl))) (mvT hZ (hw _ (List.mem_of_getElem? (i := 63) rfl))) (by decide) (backOf (W := 0) (rmD1 l Z a0 hw [] cd p0 p1 p4 ac ak T59.heap n0 Z59 f60 Fc59_0 Fc59_1 Fc59_2 Fc59_3 Fc59_4 Fc59_5 Fc59_6 Fc59_7 Fc59_8 Fc59_9 gg10 hac hak) hZ (hw _ (List.mem_of_getElem? (i := 65) rfl)) (hw _ (List.mem_of_getElem? (i := 2) rfl)) (by decide) (by decide)) q62a q62c (g := (mkF m 53 #[.val (.int p0), .val (.int p1), .val (.int p2), .val (.int p3), .val (.int p4), .val (.int p5), .val (.int fi), .val (.int bo3), .val (.int ac), .val (.ref cd), .unset, .unset, .unset, .unset] [(.int p4), (.int p1), (.int p0), (.ref cd)])) rfl (by rw [hml]; rfl) (Steps.refl _) (argsL := [(.int p0), (.int p1), (.int p4)]) (rest := []) (lenOf pd0_2 rfl) rfl (by show 2 * 0 + _ ≤ _; exact Nat.le_of_eq rfl) (hb hby at_53) (fun _ _ => ⟨rfl, rfl, (by decide : 9 + 6 ≤ _), (by decide : 73 + 16 ≤ _)⟩)
  dsimp only [Pt.U, Pt.locs, Pt.cells, Pt.slots] at X62 l62 y62 z62 st62 hQ62
  subst l62 y62 z62
  obtain ⟨rfl, N62q, K62, si, fo, po, tk, Fa62_capacity, Fa62_size, Fa62_left, Fa62_stateIndexes, Fa62_followers, Fa62_positions, Fa62_taken, ⟨ff_si, Aa62_si⟩, ⟨ff_fo, Aa62_fo⟩, ⟨ff_po, Aa62_po⟩, Aa62_tk, ga_si, ga_fo, ga_po, ga_tk, nq_a1_si, nq_a1_fo, nq_a1_po, nq_a1_tk, nq_si_fo, nq_si_po, nq_si_tk, nq_fo_po, nq_fo_tk, nq_po_tk, zz_si, zz_fo, zz_po, zz_tk⟩ := hQ62
  have N62 := Fr.app N59 N62q
  have f63 := f60.keep K62
  have Z62 : n0 ≤ T62.heap.size := Nat.le_trans Z59 K62.1
  obtain ⟨cq64, kq64, q64a, q64b, q64c⟩ := isOf hZ rfl f63
  obtain ⟨_, _, ⟨T64, L64, k64, n64⟩, -, X64, ⟨Lc64, hQ64, l64, y64, z64⟩, st64⟩ := X62.virtualBack hx (y := (⟨"com/example/traceloom/traceloom/discovery/Candidates", "add", "(III)V"⟩ : MethodName)) (z := (⟨"com/example/traceloom/traceloom/discovery/Candidates", "add", "(III)V"⟩ : MethodName)) hown (mvT hZ (hw _ (List.mem_of_getElem? (i := 61) rfl))) (mvT hZ (hw _ (List.mem_of_getElem? (i := 62) rfl))) (notFace_of_selects (args := #[]) (mvT hZ (hw _ (List.mem_of_getElem? (i := 64) rfl)))) (mvT hZ (hw _ (List.mem_of_getElem? (i := 64) rfl))) (mvT hZ (hw _ (List.mem_of_getElem? (i := 63) rfl))) (by decide) (backOf (W := 0) (rmD2 l Z a0 hw [] cd p2 p3 p5 si fo po tk ff_si ff_fo ff_po (oUpd (fun _ => .int (0 : Int32)) 0 (.int ((0 : Int32) &&& 1))) T62.heap n0 Z62 f63 Fa62_capacity Fa62_size Fa62_left Fa62_stateIndexes Fa62_followers Fa62_positions Fa62_taken Aa62_si Aa62_fo Aa62_po Aa62_tk gg10 ga_si ga_fo ga_po ga_tk nq_a1_si nq_a1_fo nq_a1_po nq_a1_tk nq_si_fo nq_si_po nq_si_tk nq_fo_po nq_fo_tk nq_po_tk) hZ (hw _ (List.mem_of_getElem? (i := 65) rfl)) (hw _ (List.mem_of_getElem? (i := 2) rfl)) (by decide) (by decide)) q64a q64c (g := (mkF m 62 #[.val (.int p0), .val (.int p1), .val (.int p2), .val (.int p3), .val (.int p4), .val (.int p5), .val (.int fi), .val (.int bo3), .val (.int ac), .val (.ref cd), .unset, .unset, .unset, .unset] [(.int p5), (.int p3), (.int p2), (.ref cd)])) rfl (by rw [hml]; rfl) (Steps.refl _) (argsL := [(.int p2), (.int p3), (.int p5)]) (rest := []) (lenOf pd0_2 rfl) rfl (by show 2 * 0 + _ ≤ _; exact Nat.le_of_eq rfl) (hb hby at_62) (fun _ _ => ⟨rfl, rfl, (by decide : 15 + 0 ≤ _), (by decide : 89 + 0 ≤ _)⟩)
  dsimp only [Pt.U, Pt.locs, Pt.cells, Pt.slots] at X64 l64 y64 z64 st64 hQ64
  subst l64 y64 z64
  obtain ⟨rfl, N64q, K64, Fa64_capacity, Fa64_size, Fa64_left, Fa64_stateIndexes, Fa64_followers, Fa64_positions, Fa64_taken, -, -, -, Aa64_tk⟩ := hQ64
  have N64 := Fr.app N62 N64q
  have f65 := f63.keep K64
  have Z64 : n0 ≤ T64.heap.size := Nat.le_trans Z62 K64.1
  have pre66 : ∀ t, Steps p.tables e below (T64.setTop (mkF m 65 #[.val (.int p0), .val (.int p1), .val (.int p2), .val (.int p3), .val (.int p4), .val (.int p5), .val (.int fi), .val (.int bo3), .val (.int ac), .val (.ref cd), .unset, .unset, .unset, .unset] [])) t → Steps p.tables e below (s₁.setTop (entryFrame m #[(.int p0), (.int p1), (.int p2), (.int p3), (.int p4), (.int p5)] maxLocals)) t := fun t_ k_ => pre9 t_ (by
      refine st10 _ ?_
      show Steps p.tables e below (T10.setTop (mkF m 31 #[.val (.int p0), .val (.int p1), .val (.int p2), .val (.int p3), .val (.int p4), .val (.int p5), .val (.int fi), .val (.int bo3), .val (.int ac), .unset, .unset, .unset, .unset, .unset] [(.ref cd)])) _
      refine XS.dup X10.here hx rfl (hb hby at_31) rfl rfl ?_
      show Steps p.tables e below (T10.setTop (mkF m 32 #[.val (.int p0), .val (.int p1), .val (.int p2), .val (.int p3), .val (.int p4), .val (.int p5), .val (.int fi), .val (.int bo3), .val (.int ac), .unset, .unset, .unset, .unset, .unset] [(.ref cd), (.ref cd)])) _
      refine st23 _ ?_
      show Steps p.tables e below (T23.setTop (mkF m 35 #[.val (.int p0), .val (.int p1), .val (.int p2), .val (.int p3), .val (.int p4), .val (.int p5), .val (.int fi), .val (.int bo3), .val (.int ac), .unset, .unset, .unset, .unset, .unset] [(.ref px), (.ref cd), (.ref cd)])) _
      refine XS.dup X23.here hx rfl (hb hby at_35) rfl rfl ?_
      show Steps p.tables e below (T23.setTop (mkF m 36 #[.val (.int p0), .val (.int p1), .val (.int p2), .val (.int p3), .val (.int p4), .val (.int p5), .val (.int fi), .val (.int bo3), .val (.int ac), .unset, .unset, .unset, .unset, .unset] [(.ref px), (.ref px), (.ref cd), (.ref cd)])) _
      refine st45.trans ?_
      show Steps p.tables e below (T45.setTop (mkF m 39 #[.val (.int p0), .val (.int p1), .val (.int p2), .val (.int p3), .val (.int p4), .val (.int p5), .val (.int fi), .val (.int bo3), .val (.int ac), .unset, .unset, .unset, .unset, .unset] [(.ref px), (.ref cd), (.ref cd)])) _
      refine XS.iconst X45.here hx rfl (hb hby at_39) ?_
      show Steps p.tables e below (T45.setTop (mkF m 40 #[.val (.int p0), .val (.int p1), .val (.int p2), .val (.int p3), .val (.int p4), .val (.int p5), .val (.int fi), .val (.int bo3), .val (.int ac), .unset, .unset, .unset, .unset, .unset] [(.int (2 : Int32)), (.ref px), (.ref cd), (.ref cd)])) _
      refine XS.iload X45.here hx rfl (hb hby at_40) rfl ?_
      show Steps p.tables e below (T45.setTop (mkF m 42 #[.val (.int p0), .val (.int p1), .val (.int p2), .val (.int p3), .val (.int p4), .val (.int p5), .val (.int fi), .val (.int bo3), .val (.int ac), .unset, .unset, .unset, .unset, .unset] [(.int ac), (.int (2 : Int32)), (.ref px), (.ref cd), (.ref cd)])) _
      refine st59.trans ?_
      show Steps p.tables e below (T59.setTop (mkF m 45 #[.val (.int p0), .val (.int p1), .val (.int p2), .val (.int p3), .val (.int p4), .val (.int p5), .val (.int fi), .val (.int bo3), .val (.int ac), .unset, .unset, .unset, .unset, .unset] [(.ref cd)])) _
      refine XS.astore X59.here hx rfl (hb hby at_45) rfl rfl (l' := #[.val (.int p0), .val (.int p1), .val (.int p2), .val (.int p3), .val (.int p4), .val (.int p5), .val (.int fi), .val (.int bo3), .val (.int ac), .val (.ref cd), .unset, .unset, .unset, .unset]) rfl ?_
      show Steps p.tables e below (T59.setTop (mkF m 47 #[.val (.int p0), .val (.int p1), .val (.int p2), .val (.int p3), .val (.int p4), .val (.int p5), .val (.int fi), .val (.int bo3), .val (.int ac), .val (.ref cd), .unset, .unset, .unset, .unset] [])) _
      refine XS.aload X59.here hx rfl (hb hby at_47) rfl rfl ?_
      show Steps p.tables e below (T59.setTop (mkF m 49 #[.val (.int p0), .val (.int p1), .val (.int p2), .val (.int p3), .val (.int p4), .val (.int p5), .val (.int fi), .val (.int bo3), .val (.int ac), .val (.ref cd), .unset, .unset, .unset, .unset] [(.ref cd)])) _
      refine XS.iloadN X59.here hx rfl (hb hby at_49) rfl ?_
      show Steps p.tables e below (T59.setTop (mkF m 50 #[.val (.int p0), .val (.int p1), .val (.int p2), .val (.int p3), .val (.int p4), .val (.int p5), .val (.int fi), .val (.int bo3), .val (.int ac), .val (.ref cd), .unset, .unset, .unset, .unset] [(.int p0), (.ref cd)])) _
      refine XS.iloadN X59.here hx rfl (hb hby at_50) rfl ?_
      show Steps p.tables e below (T59.setTop (mkF m 51 #[.val (.int p0), .val (.int p1), .val (.int p2), .val (.int p3), .val (.int p4), .val (.int p5), .val (.int fi), .val (.int bo3), .val (.int ac), .val (.ref cd), .unset, .unset, .unset, .unset] [(.int p1), (.int p0), (.ref cd)])) _
      refine XS.iload X59.here hx rfl (hb hby at_51) rfl ?_
      show Steps p.tables e below (T59.setTop (mkF m 53 #[.val (.int p0), .val (.int p1), .val (.int p2), .val (.int p3), .val (.int p4), .val (.int p5), .val (.int fi), .val (.int bo3), .val (.int ac), .val (.ref cd), .unset, .unset, .unset, .unset] [(.int p4), (.int p1), (.int p0), (.ref cd)])) _
      refine st62.trans ?_
      show Steps p.tables e below (T62.setTop (mkF m 56 #[.val (.int p0), .val (.int p1), .val (.int p2), .val (.int p3), .val (.int p4), .val (.int p5), .val (.int fi), .val (.int bo3), .val (.int ac), .val (.ref cd), .unset, .unset, .unset, .unset] [])) _
      refine XS.aload X62.here hx rfl (hb hby at_56) rfl rfl ?_
      show Steps p.tables e below (T62.setTop (mkF m 58 #[.val (.int p0), .val (.int p1), .val (.int p2), .val (.int p3), .val (.int p4), .val (.int p5), .val (.int fi), .val (.int bo3), .val (.int ac), .val (.ref cd), .unset, .unset, .unset, .unset] [(.ref cd)])) _
      refine XS.iloadN X62.here hx rfl (hb hby at_58) rfl ?_
      show Steps p.tables e below (T62.setTop (mkF m 59 #[.val (.int p0), .val (.int p1), .val (.int p2), .val (.int p3), .val (.int p4), .val (.int p5), .val (.int fi), .val (.int bo3), .val (.int ac), .val (.ref cd), .unset, .unset, .unset, .unset] [(.int p2), (.ref cd)])) _
      refine XS.iloadN X62.here hx rfl (hb hby at_59) rfl ?_
      show Steps p.tables e below (T62.setTop (mkF m 60 #[.val (.int p0), .val (.int p1), .val (.int p2), .val (.int p3), .val (.int p4), .val (.int p5), .val (.int fi), .val (.int bo3), .val (.int ac), .val (.ref cd), .unset, .unset, .unset, .unset] [(.int p3), (.int p2), (.ref cd)])) _
      refine XS.iload X62.here hx rfl (hb hby at_60) rfl ?_
      show Steps p.tables e below (T62.setTop (mkF m 62 #[.val (.int p0), .val (.int p1), .val (.int p2), .val (.int p3), .val (.int p4), .val (.int p5), .val (.int fi), .val (.int bo3), .val (.int ac), .val (.ref cd), .unset, .unset, .unset, .unset] [(.int p5), (.int p3), (.int p2), (.ref cd)])) _
      refine st64.trans ?_
      show Steps p.tables e below (T64.setTop (mkF m 65 #[.val (.int p0), .val (.int p1), .val (.int p2), .val (.int p3), .val (.int p4), .val (.int p5), .val (.int fi), .val (.int bo3), .val (.int ac), .val (.ref cd), .unset, .unset, .unset, .unset] [])) _
      exact k_)
  rcases hfi with rfl | rfl <;> rcases hv3 with rfl | rfl
  ·
    obtain ⟨cq67, kq67, q67a, q67b, q67c⟩ := isOf hZ rfl f65
    obtain ⟨_, _, ⟨T67, L67, k67, n67⟩, -, X67, ⟨Lc67, hQ67, l67, y67, z67⟩, st67⟩ := X64.virtualBack hx (y := (⟨"com/example/traceloom/traceloom/discovery/Candidates", "take", "(I)V"⟩ : MethodName)) (z := (⟨"com/example/traceloom/traceloom/discovery/Candidates", "take", "(I)V"⟩ : MethodName)) hown (mvT hZ (hw _ (List.mem_of_getElem? (i := 84) rfl))) (mvT hZ (hw _ (List.mem_of_getElem? (i := 85) rfl))) (notFace_of_selects (args := #[]) (mvT hZ (hw _ (List.mem_of_getElem? (i := 87) rfl)))) (mvT hZ (hw _ (List.mem_of_getElem? (i := 87) rfl))) (mvT hZ (hw _ (List.mem_of_getElem? (i := 86) rfl))) (by decide) (backOf (W := 0) (rmTK l Z a0 hw [] cd ((0 : Int32)) 0 (2 : Int32) (2 : Int32) tk (oUpd (oUpd (fun _ => .int (0 : Int32)) 0 (.int ((0 : Int32) &&& 1))) 1 (.int ((0 : Int32) &&& 1))) T64.heap n0 Z64 f65 Fa64_size Fa64_left Fa64_taken Aa64_tk gg10 ga_tk nq_a1_tk rfl (by decide)) hZ (hw _ (List.mem_of_getElem? (i := 88) rfl)) (hw _ (List.mem_of_getElem? (i := 2) rfl)) (by decide) (by decide)) q67a q67c (g := (mkF m 69 #[.val (.int p0), .val (.int p1), .val (.int p2), .val (.int p3), .val (.int p4), .val (.int p5), .val (.int (0 : Int32)), .val (.int (0 : Int32)), .val (.int ac), .val (.ref cd), .unset, .unset, .unset, .unset] [(.int (0 : Int32)), (.ref cd)])) rfl (by rw [hml]; rfl) (Steps.refl _) (argsL := [(.int (0 : Int32))]) (rest := []) (lenOf pd0_3 rfl) rfl (by show 2 * 0 + _ ≤ _; exact Nat.le_of_eq rfl) (hb hby at_69) (fun _ _ => ⟨rfl, rfl, (by decide : 15 + 0 ≤ _), (by decide : 89 + 0 ≤ _)⟩)
    dsimp only [Pt.U, Pt.locs, Pt.cells, Pt.slots] at X67 l67 y67 z67 st67 hQ67
    subst l67 y67 z67
    obtain ⟨rfl, N67q, K67, Ft67_s, Ft67_l, Ft67_t, At67⟩ := hQ67
    have N67 := Fr.app N64 N67q
    have f68 := f65.keep K67
    have Z67 : n0 ≤ T67.heap.size := Nat.le_trans Z64 K67.1
    obtain ⟨cq69, kq69, q69a, q69b, q69c⟩ := isOf hZ rfl f68
    obtain ⟨_, _, ⟨T69, L69, k69, n69⟩, -, X69, ⟨Lc69, hQ69, l69, y69, z69⟩, st69⟩ := X67.virtualBack hx (y := (⟨"com/example/traceloom/traceloom/discovery/Candidates", "taken", "(I)Z"⟩ : MethodName)) (z := (⟨"com/example/traceloom/traceloom/discovery/Candidates", "taken", "(I)Z"⟩ : MethodName)) hown (mvT hZ (hw _ (List.mem_of_getElem? (i := 89) rfl))) (mvT hZ (hw _ (List.mem_of_getElem? (i := 90) rfl))) (notFace_of_selects (args := #[]) (mvT hZ (hw _ (List.mem_of_getElem? (i := 92) rfl)))) (mvT hZ (hw _ (List.mem_of_getElem? (i := 92) rfl))) (mvT hZ (hw _ (List.mem_of_getElem? (i := 91) rfl))) (by decide) (backOf (W := 0) (rmTA l Z a0 hw [] cd ((0 : Int32)) 0 (2 : Int32) ((2 : Int32) - (1 : Int32)) tk (oUpd (oUpd (oUpd (fun _ => .int (0 : Int32)) 0 (.int ((0 : Int32) &&& 1))) 1 (.int ((0 : Int32) &&& 1))) 0 (.int ((1 : Int32) &&& 1))) ((1 : Int32) &&& 1) T67.heap n0 Z67 f68 Ft67_s Ft67_l Ft67_t At67 gg10 ga_tk nq_a1_tk rfl (by decide) rfl) hZ (hw _ (List.mem_of_getElem? (i := 93) rfl)) (hw _ (List.mem_of_getElem? (i := 2) rfl)) (by decide) (by decide)) q69a q69c (g := (mkF m 89 #[.val (.int p0), .val (.int p1), .val (.int p2), .val (.int p3), .val (.int p4), .val (.int p5), .val (.int (0 : Int32)), .val (.int (0 : Int32)), .val (.int ac), .val (.ref cd), .unset, .unset, .unset, .unset] [(.int (0 : Int32)), (.ref cd)])) rfl (by rw [hml]; rfl) (Steps.refl _) (argsL := [(.int (0 : Int32))]) (rest := []) (lenOf pd0_4 rfl) rfl (by show 2 * 0 + _ ≤ _; exact Nat.le_of_eq rfl) (hb hby at_89) (fun _ _ => ⟨rfl, rfl, (by decide : 15 + 0 ≤ _), (by decide : 89 + 0 ≤ _)⟩)
    dsimp only [Pt.U, Pt.locs, Pt.cells, Pt.slots] at X69 l69 y69 z69 st69 hQ69
    subst l69 y69 z69
    obtain ⟨rfl, N69q, e69⟩ := hQ69
    have N69 := Fr.app N67 N69q
    obtain ⟨cq70, kq70, q70a, q70b, q70c⟩ := isOf hZ e69 f68
    obtain ⟨_, _, ⟨T70, L70, k70, n70⟩, -, X70, ⟨Lc70, hQ70, l70, y70, z70⟩, st70⟩ := X69.virtualBack hx (y := (⟨"com/example/traceloom/traceloom/discovery/Candidates", "taken", "(I)Z"⟩ : MethodName)) (z := (⟨"com/example/traceloom/traceloom/discovery/Candidates", "taken", "(I)Z"⟩ : MethodName)) hown (mvT hZ (hw _ (List.mem_of_getElem? (i := 89) rfl))) (mvT hZ (hw _ (List.mem_of_getElem? (i := 90) rfl))) (notFace_of_selects (args := #[]) (mvT hZ (hw _ (List.mem_of_getElem? (i := 92) rfl)))) (mvT hZ (hw _ (List.mem_of_getElem? (i := 92) rfl))) (mvT hZ (hw _ (List.mem_of_getElem? (i := 91) rfl))) (by decide) (backOf (W := 0) (rmTA l Z a0 hw [] cd ((1 : Int32)) 1 (2 : Int32) ((2 : Int32) - (1 : Int32)) tk (oUpd (oUpd (oUpd (fun _ => .int (0 : Int32)) 0 (.int ((0 : Int32) &&& 1))) 1 (.int ((0 : Int32) &&& 1))) 0 (.int ((1 : Int32) &&& 1))) ((0 : Int32) &&& 1) T67.heap n0 Z67 f68 Ft67_s Ft67_l Ft67_t At67 gg10 ga_tk nq_a1_tk rfl (by decide) rfl) hZ (hw _ (List.mem_of_getElem? (i := 93) rfl)) (hw _ (List.mem_of_getElem? (i := 2) rfl)) (by decide) (by decide)) q70a q70c (g := (mkF m 97 #[.val (.int p0), .val (.int p1), .val (.int p2), .val (.int p3), .val (.int p4), .val (.int p5), .val (.int (0 : Int32)), .val (.int (0 : Int32)), .val (.int ac), .val (.ref cd), .val (.int (((1 : Int32) &&& 1) &&& 1)), .unset, .unset, .unset] [(.int (1 : Int32)), (.ref cd)])) rfl (by rw [hml]; rfl) (Steps.refl _) (argsL := [(.int (1 : Int32))]) (rest := []) (lenOf pd0_4 rfl) rfl (by show 2 * 0 + _ ≤ _; exact Nat.le_of_eq rfl) (hb hby at_97) (fun _ _ => ⟨rfl, e69, (by decide : 15 + 0 ≤ _), (by decide : 89 + 0 ≤ _)⟩)
    dsimp only [Pt.U, Pt.locs, Pt.cells, Pt.slots] at X70 l70 y70 z70 st70 hQ70
    subst l70 y70 z70
    obtain ⟨rfl, N70q, e70⟩ := hQ70
    have N70 := Fr.app N69 N70q
    obtain ⟨cq71, kq71, q71a, q71b, q71c⟩ := isOf hZ e70 f68
    obtain ⟨_, _, ⟨T71, L71, k71, n71⟩, -, X71, ⟨Lc71, hQ71, l71, y71, z71⟩, st71⟩ := X70.virtualBack hx (y := (⟨"com/example/traceloom/traceloom/discovery/Candidates", "isEmpty", "()Z"⟩ : MethodName)) (z := (⟨"com/example/traceloom/traceloom/discovery/Candidates", "isEmpty", "()Z"⟩ : MethodName)) hown (mvT hZ (hw _ (List.mem_of_getElem? (i := 94) rfl))) (mvT hZ (hw _ (List.mem_of_getElem? (i := 95) rfl))) (notFace_of_selects (args := #[]) (mvT hZ (hw _ (List.mem_of_getElem? (i := 97) rfl)))) (mvT hZ (hw _ (List.mem_of_getElem? (i := 97) rfl))) (mvT hZ (hw _ (List.mem_of_getElem? (i := 96) rfl))) (by decide) (backOf (W := 0) (rmIE l Z a0 hw [] cd (((2 : Int32) - (1 : Int32))) T67.heap n0 Z67 Ft67_l) hZ (hw _ (List.mem_of_getElem? (i := 98) rfl)) (hw _ (List.mem_of_getElem? (i := 2) rfl)) (by decide) (by decide)) q71a q71c (g := (mkF m 153 #[.val (.int p0), .val (.int p1), .val (.int p2), .val (.int p3), .val (.int p4), .val (.int p5), .val (.int (0 : Int32)), .val (.int (0 : Int32)), .val (.int ac), .val (.ref cd), .val (.int (((1 : Int32) &&& 1) &&& 1)), .val (.int (((0 : Int32) &&& 1) &&& 1)), .val (.int (1 : Int32)), .val (.int (0 : Int32))] [(.ref cd)])) rfl (by rw [hml]; rfl) (Steps.refl _) (argsL := []) (rest := []) (lenOf pd0_5 rfl) rfl (by show 2 * 0 + _ ≤ _; exact Nat.le_of_eq rfl) (hb hby at_153) (fun _ _ => ⟨rfl, e70, (by decide : 15 + 0 ≤ _), (by decide : 89 + 0 ≤ _)⟩)
    dsimp only [Pt.U, Pt.locs, Pt.cells, Pt.slots] at X71 l71 y71 z71 st71 hQ71
    subst l71 y71 z71
    obtain ⟨rfl, N71q, e71⟩ := hQ71
    have N71 := Fr.app N70 N71q
    obtain ⟨cq72, kq72, q72a, q72b, q72c⟩ := isOf hZ e71 f68
    obtain ⟨_, _, ⟨T72, L72, k72, n72⟩, -, X72, ⟨Lc72, hQ72, l72, y72, z72⟩, st72⟩ := X71.virtualBack hx (y := (⟨"com/example/traceloom/traceloom/discovery/Candidates", "size", "()I"⟩ : MethodName)) (z := (⟨"com/example/traceloom/traceloom/discovery/Candidates", "size", "()I"⟩ : MethodName)) hown (mvT hZ (hw _ (List.mem_of_getElem? (i := 99) rfl))) (mvT hZ (hw _ (List.mem_of_getElem? (i := 100) rfl))) (notFace_of_selects (args := #[]) (mvT hZ (hw _ (List.mem_of_getElem? (i := 102) rfl)))) (mvT hZ (hw _ (List.mem_of_getElem? (i := 102) rfl))) (mvT hZ (hw _ (List.mem_of_getElem? (i := 101) rfl))) (by decide) (backOf (W := 0) (rmSZ l Z a0 hw [] cd ((2 : Int32)) T67.heap n0 Z67 Ft67_s) hZ (hw _ (List.mem_of_getElem? (i := 103) rfl)) (hw _ (List.mem_of_getElem? (i := 2) rfl)) (by decide) (by decide)) q72a q72c (g := (mkF m 163 #[.val (.int p0), .val (.int p1), .val (.int p2), .val (.int p3), .val (.int p4), .val (.int p5), .val (.int (0 : Int32)), .val (.int (0 : Int32)), .val (.int ac), .val (.ref cd), .val (.int (((1 : Int32) &&& 1) &&& 1)), .val (.int (((0 : Int32) &&& 1) &&& 1)), .val (.int (1 : Int32)), .val (.int (0 : Int32))] [(.ref cd)])) rfl (by rw [hml]; rfl) (Steps.refl _) (argsL := []) (rest := []) (lenOf pd0_6 rfl) rfl (by show 2 * 0 + _ ≤ _; exact Nat.le_of_eq rfl) (hb hby at_163) (fun _ _ => ⟨rfl, e71, (by decide : 15 + 0 ≤ _), (by decide : 89 + 0 ≤ _)⟩)
    dsimp only [Pt.U, Pt.locs, Pt.cells, Pt.slots] at X72 l72 y72 z72 st72 hQ72
    subst l72 y72 z72
    obtain ⟨rfl, N72q, e72⟩ := hQ72
    have N72 := Fr.app N71 N72q
    have pre73 : ∀ t, Steps p.tables e below (T72.setTop (mkF m 175 #[.val (.int p0), .val (.int p1), .val (.int p2), .val (.int p3), .val (.int p4), .val (.int p5), .val (.int (0 : Int32)), .val (.int (0 : Int32)), .val (.int ac), .val (.ref cd), .val (.int (((1 : Int32) &&& 1) &&& 1)), .val (.int (((0 : Int32) &&& 1) &&& 1)), .val (.int (1 : Int32)), .val (.int (0 : Int32))] [(.int (1 : Int32))])) t → Steps p.tables e below (s₁.setTop (entryFrame m #[(.int p0), (.int p1), (.int p2), (.int p3), (.int p4), (.int p5)] maxLocals)) t := fun t_ k_ => pre66 t_ (by
        refine XS.aload X64.here hx rfl (hb hby at_65) rfl rfl ?_
        show Steps p.tables e below (T64.setTop (mkF m 67 #[.val (.int p0), .val (.int p1), .val (.int p2), .val (.int p3), .val (.int p4), .val (.int p5), .val (.int (0 : Int32)), .val (.int (0 : Int32)), .val (.int ac), .val (.ref cd), .unset, .unset, .unset, .unset] [(.ref cd)])) _
        refine XS.iload X64.here hx rfl (hb hby at_67) rfl ?_
        show Steps p.tables e below (T64.setTop (mkF m 69 #[.val (.int p0), .val (.int p1), .val (.int p2), .val (.int p3), .val (.int p4), .val (.int p5), .val (.int (0 : Int32)), .val (.int (0 : Int32)), .val (.int ac), .val (.ref cd), .unset, .unset, .unset, .unset] [(.int (0 : Int32)), (.ref cd)])) _
        refine st67.trans ?_
        show Steps p.tables e below (T67.setTop (mkF m 72 #[.val (.int p0), .val (.int p1), .val (.int p2), .val (.int p3), .val (.int p4), .val (.int p5), .val (.int (0 : Int32)), .val (.int (0 : Int32)), .val (.int ac), .val (.ref cd), .unset, .unset, .unset, .unset] [])) _
        refine XS.iload X67.here hx rfl (hb hby at_72) rfl ?_
        show Steps p.tables e below (T67.setTop (mkF m 74 #[.val (.int p0), .val (.int p1), .val (.int p2), .val (.int p3), .val (.int p4), .val (.int p5), .val (.int (0 : Int32)), .val (.int (0 : Int32)), .val (.int ac), .val (.ref cd), .unset, .unset, .unset, .unset] [(.int (0 : Int32))])) _
        refine XS.ifYes X67.here hx rfl (pc0 := 74) (pc' := 86) rfl (hb hby at_74) rfl ((if0 _ _).trans (teq (by decide : (0 : Int32) = (0 : Int32))).1) (by decide) (by decide) ?_
        show Steps p.tables e below (T67.setTop (mkF m 86 #[.val (.int p0), .val (.int p1), .val (.int p2), .val (.int p3), .val (.int p4), .val (.int p5), .val (.int (0 : Int32)), .val (.int (0 : Int32)), .val (.int ac), .val (.ref cd), .unset, .unset, .unset, .unset] [])) _
        refine XS.aload X67.here hx rfl (hb hby at_86) rfl rfl ?_
        show Steps p.tables e below (T67.setTop (mkF m 88 #[.val (.int p0), .val (.int p1), .val (.int p2), .val (.int p3), .val (.int p4), .val (.int p5), .val (.int (0 : Int32)), .val (.int (0 : Int32)), .val (.int ac), .val (.ref cd), .unset, .unset, .unset, .unset] [(.ref cd)])) _
        refine XS.iconst X67.here hx rfl (hb hby at_88) ?_
        show Steps p.tables e below (T67.setTop (mkF m 89 #[.val (.int p0), .val (.int p1), .val (.int p2), .val (.int p3), .val (.int p4), .val (.int p5), .val (.int (0 : Int32)), .val (.int (0 : Int32)), .val (.int ac), .val (.ref cd), .unset, .unset, .unset, .unset] [(.int (0 : Int32)), (.ref cd)])) _
        refine st69.trans ?_
        show Steps p.tables e below (T69.setTop (mkF m 92 #[.val (.int p0), .val (.int p1), .val (.int p2), .val (.int p3), .val (.int p4), .val (.int p5), .val (.int (0 : Int32)), .val (.int (0 : Int32)), .val (.int ac), .val (.ref cd), .unset, .unset, .unset, .unset] [(.int (((1 : Int32) &&& 1) &&& 1))])) _
        refine XS.istore X69.here hx rfl (hb hby at_92) rfl (l' := #[.val (.int p0), .val (.int p1), .val (.int p2), .val (.int p3), .val (.int p4), .val (.int p5), .val (.int (0 : Int32)), .val (.int (0 : Int32)), .val (.int ac), .val (.ref cd), .val (.int (((1 : Int32) &&& 1) &&& 1)), .unset, .unset, .unset]) rfl ?_
        show Steps p.tables e below (T69.setTop (mkF m 94 #[.val (.int p0), .val (.int p1), .val (.int p2), .val (.int p3), .val (.int p4), .val (.int p5), .val (.int (0 : Int32)), .val (.int (0 : Int32)), .val (.int ac), .val (.ref cd), .val (.int (((1 : Int32) &&& 1) &&& 1)), .unset, .unset, .unset] [])) _
        refine XS.aload X69.here hx rfl (hb hby at_94) rfl rfl ?_
        show Steps p.tables e below (T69.setTop (mkF m 96 #[.val (.int p0), .val (.int p1), .val (.int p2), .val (.int p3), .val (.int p4), .val (.int p5), .val (.int (0 : Int32)), .val (.int (0 : Int32)), .val (.int ac), .val (.ref cd), .val (.int (((1 : Int32) &&& 1) &&& 1)), .unset, .unset, .unset] [(.ref cd)])) _
        refine XS.iconst X69.here hx rfl (hb hby at_96) ?_
        show Steps p.tables e below (T69.setTop (mkF m 97 #[.val (.int p0), .val (.int p1), .val (.int p2), .val (.int p3), .val (.int p4), .val (.int p5), .val (.int (0 : Int32)), .val (.int (0 : Int32)), .val (.int ac), .val (.ref cd), .val (.int (((1 : Int32) &&& 1) &&& 1)), .unset, .unset, .unset] [(.int (1 : Int32)), (.ref cd)])) _
        refine st70.trans ?_
        show Steps p.tables e below (T70.setTop (mkF m 100 #[.val (.int p0), .val (.int p1), .val (.int p2), .val (.int p3), .val (.int p4), .val (.int p5), .val (.int (0 : Int32)), .val (.int (0 : Int32)), .val (.int ac), .val (.ref cd), .val (.int (((1 : Int32) &&& 1) &&& 1)), .unset, .unset, .unset] [(.int (((0 : Int32) &&& 1) &&& 1))])) _
        refine XS.istore X70.here hx rfl (hb hby at_100) rfl (l' := #[.val (.int p0), .val (.int p1), .val (.int p2), .val (.int p3), .val (.int p4), .val (.int p5), .val (.int (0 : Int32)), .val (.int (0 : Int32)), .val (.int ac), .val (.ref cd), .val (.int (((1 : Int32) &&& 1) &&& 1)), .val (.int (((0 : Int32) &&& 1) &&& 1)), .unset, .unset]) rfl ?_
        show Steps p.tables e below (T70.setTop (mkF m 102 #[.val (.int p0), .val (.int p1), .val (.int p2), .val (.int p3), .val (.int p4), .val (.int p5), .val (.int (0 : Int32)), .val (.int (0 : Int32)), .val (.int ac), .val (.ref cd), .val (.int (((1 : Int32) &&& 1) &&& 1)), .val (.int (((0 : Int32) &&& 1) &&& 1)), .unset, .unset] [])) _
        refine XS.iload X70.here hx rfl (hb hby at_102) rfl ?_
        show Steps p.tables e below (T70.setTop (mkF m 104 #[.val (.int p0), .val (.int p1), .val (.int p2), .val (.int p3), .val (.int p4), .val (.int p5), .val (.int (0 : Int32)), .val (.int (0 : Int32)), .val (.int ac), .val (.ref cd), .val (.int (((1 : Int32) &&& 1) &&& 1)), .val (.int (((0 : Int32) &&& 1) &&& 1)), .unset, .unset] [(.int (0 : Int32))])) _
        refine XS.ifYes X70.here hx rfl (pc0 := 104) (pc' := 112) rfl (hb hby at_104) rfl ((if0 _ _).trans (teq (by decide : (0 : Int32) = (0 : Int32))).1) (by decide) (by decide) ?_
        show Steps p.tables e below (T70.setTop (mkF m 112 #[.val (.int p0), .val (.int p1), .val (.int p2), .val (.int p3), .val (.int p4), .val (.int p5), .val (.int (0 : Int32)), .val (.int (0 : Int32)), .val (.int ac), .val (.ref cd), .val (.int (((1 : Int32) &&& 1) &&& 1)), .val (.int (((0 : Int32) &&& 1) &&& 1)), .unset, .unset] [])) _
        refine XS.iconst X70.here hx rfl (hb hby at_112) ?_
        show Steps p.tables e below (T70.setTop (mkF m 113 #[.val (.int p0), .val (.int p1), .val (.int p2), .val (.int p3), .val (.int p4), .val (.int p5), .val (.int (0 : Int32)), .val (.int (0 : Int32)), .val (.int ac), .val (.ref cd), .val (.int (((1 : Int32) &&& 1) &&& 1)), .val (.int (((0 : Int32) &&& 1) &&& 1)), .unset, .unset] [(.int (1 : Int32))])) _
        refine XS.goto X70.here hx rfl (pc0 := 113) (pc' := 117) rfl (hb hby at_113) (by decide) (by decide) ?_
        show Steps p.tables e below (T70.setTop (mkF m 117 #[.val (.int p0), .val (.int p1), .val (.int p2), .val (.int p3), .val (.int p4), .val (.int p5), .val (.int (0 : Int32)), .val (.int (0 : Int32)), .val (.int ac), .val (.ref cd), .val (.int (((1 : Int32) &&& 1) &&& 1)), .val (.int (((0 : Int32) &&& 1) &&& 1)), .unset, .unset] [(.int (1 : Int32))])) _
        refine XS.istore X70.here hx rfl (hb hby at_117) rfl (l' := #[.val (.int p0), .val (.int p1), .val (.int p2), .val (.int p3), .val (.int p4), .val (.int p5), .val (.int (0 : Int32)), .val (.int (0 : Int32)), .val (.int ac), .val (.ref cd), .val (.int (((1 : Int32) &&& 1) &&& 1)), .val (.int (((0 : Int32) &&& 1) &&& 1)), .val (.int (1 : Int32)), .unset]) rfl ?_
        show Steps p.tables e below (T70.setTop (mkF m 119 #[.val (.int p0), .val (.int p1), .val (.int p2), .val (.int p3), .val (.int p4), .val (.int p5), .val (.int (0 : Int32)), .val (.int (0 : Int32)), .val (.int ac), .val (.ref cd), .val (.int (((1 : Int32) &&& 1) &&& 1)), .val (.int (((0 : Int32) &&& 1) &&& 1)), .val (.int (1 : Int32)), .unset] [])) _
        refine XS.iload X70.here hx rfl (hb hby at_119) rfl ?_
        show Steps p.tables e below (T70.setTop (mkF m 121 #[.val (.int p0), .val (.int p1), .val (.int p2), .val (.int p3), .val (.int p4), .val (.int p5), .val (.int (0 : Int32)), .val (.int (0 : Int32)), .val (.int ac), .val (.ref cd), .val (.int (((1 : Int32) &&& 1) &&& 1)), .val (.int (((0 : Int32) &&& 1) &&& 1)), .val (.int (1 : Int32)), .unset] [(.int (0 : Int32))])) _
        refine XS.iconst X70.here hx rfl (hb hby at_121) ?_
        show Steps p.tables e below (T70.setTop (mkF m 122 #[.val (.int p0), .val (.int p1), .val (.int p2), .val (.int p3), .val (.int p4), .val (.int p5), .val (.int (0 : Int32)), .val (.int (0 : Int32)), .val (.int ac), .val (.ref cd), .val (.int (((1 : Int32) &&& 1) &&& 1)), .val (.int (((0 : Int32) &&& 1) &&& 1)), .val (.int (1 : Int32)), .unset] [(.int (1 : Int32)), (.int (0 : Int32))])) _
        refine XS.icmpNo X70.here hx rfl (hb hby at_122) rfl (feq (by decide : ¬ ((0 : Int32) = (1 : Int32)))).1 ?_
        show Steps p.tables e below (T70.setTop (mkF m 125 #[.val (.int p0), .val (.int p1), .val (.int p2), .val (.int p3), .val (.int p4), .val (.int p5), .val (.int (0 : Int32)), .val (.int (0 : Int32)), .val (.int ac), .val (.ref cd), .val (.int (((1 : Int32) &&& 1) &&& 1)), .val (.int (((0 : Int32) &&& 1) &&& 1)), .val (.int (1 : Int32)), .unset] [])) _
        refine XS.iload X70.here hx rfl (hb hby at_125) rfl ?_
        show Steps p.tables e below (T70.setTop (mkF m 127 #[.val (.int p0), .val (.int p1), .val (.int p2), .val (.int p3), .val (.int p4), .val (.int p5), .val (.int (0 : Int32)), .val (.int (0 : Int32)), .val (.int ac), .val (.ref cd), .val (.int (((1 : Int32) &&& 1) &&& 1)), .val (.int (((0 : Int32) &&& 1) &&& 1)), .val (.int (1 : Int32)), .unset] [(.int (0 : Int32))])) _
        refine XS.ifYes X70.here hx rfl (pc0 := 127) (pc' := 134) rfl (hb hby at_127) rfl ((if0 _ _).trans (teq (by decide : (0 : Int32) = (0 : Int32))).1) (by decide) (by decide) ?_
        show Steps p.tables e below (T70.setTop (mkF m 134 #[.val (.int p0), .val (.int p1), .val (.int p2), .val (.int p3), .val (.int p4), .val (.int p5), .val (.int (0 : Int32)), .val (.int (0 : Int32)), .val (.int ac), .val (.ref cd), .val (.int (((1 : Int32) &&& 1) &&& 1)), .val (.int (((0 : Int32) &&& 1) &&& 1)), .val (.int (1 : Int32)), .unset] [])) _
        refine XS.iconst X70.here hx rfl (hb hby at_134) ?_
        show Steps p.tables e below (T70.setTop (mkF m 135 #[.val (.int p0), .val (.int p1), .val (.int p2), .val (.int p3), .val (.int p4), .val (.int p5), .val (.int (0 : Int32)), .val (.int (0 : Int32)), .val (.int ac), .val (.ref cd), .val (.int (((1 : Int32) &&& 1) &&& 1)), .val (.int (((0 : Int32) &&& 1) &&& 1)), .val (.int (1 : Int32)), .unset] [(.int (0 : Int32))])) _
        refine XS.istore X70.here hx rfl (hb hby at_135) rfl (l' := #[.val (.int p0), .val (.int p1), .val (.int p2), .val (.int p3), .val (.int p4), .val (.int p5), .val (.int (0 : Int32)), .val (.int (0 : Int32)), .val (.int ac), .val (.ref cd), .val (.int (((1 : Int32) &&& 1) &&& 1)), .val (.int (((0 : Int32) &&& 1) &&& 1)), .val (.int (1 : Int32)), .val (.int (0 : Int32))]) rfl ?_
        show Steps p.tables e below (T70.setTop (mkF m 137 #[.val (.int p0), .val (.int p1), .val (.int p2), .val (.int p3), .val (.int p4), .val (.int p5), .val (.int (0 : Int32)), .val (.int (0 : Int32)), .val (.int ac), .val (.ref cd), .val (.int (((1 : Int32) &&& 1) &&& 1)), .val (.int (((0 : Int32) &&& 1) &&& 1)), .val (.int (1 : Int32)), .val (.int (0 : Int32))] [])) _
        refine XS.iload X70.here hx rfl (hb hby at_137) rfl ?_
        show Steps p.tables e below (T70.setTop (mkF m 139 #[.val (.int p0), .val (.int p1), .val (.int p2), .val (.int p3), .val (.int p4), .val (.int p5), .val (.int (0 : Int32)), .val (.int (0 : Int32)), .val (.int ac), .val (.ref cd), .val (.int (((1 : Int32) &&& 1) &&& 1)), .val (.int (((0 : Int32) &&& 1) &&& 1)), .val (.int (1 : Int32)), .val (.int (0 : Int32))] [(.int (((1 : Int32) &&& 1) &&& 1))])) _
        refine XS.iload X70.here hx rfl (hb hby at_139) rfl ?_
        show Steps p.tables e below (T70.setTop (mkF m 141 #[.val (.int p0), .val (.int p1), .val (.int p2), .val (.int p3), .val (.int p4), .val (.int p5), .val (.int (0 : Int32)), .val (.int (0 : Int32)), .val (.int ac), .val (.ref cd), .val (.int (((1 : Int32) &&& 1) &&& 1)), .val (.int (((0 : Int32) &&& 1) &&& 1)), .val (.int (1 : Int32)), .val (.int (0 : Int32))] [(.int (1 : Int32)), (.int (((1 : Int32) &&& 1) &&& 1))])) _
        refine XS.icmpNo X70.here hx rfl (hb hby at_141) rfl (teq (by decide : (((1 : Int32) &&& 1) &&& 1) = (1 : Int32))).2 ?_
        show Steps p.tables e below (T70.setTop (mkF m 144 #[.val (.int p0), .val (.int p1), .val (.int p2), .val (.int p3), .val (.int p4), .val (.int p5), .val (.int (0 : Int32)), .val (.int (0 : Int32)), .val (.int ac), .val (.ref cd), .val (.int (((1 : Int32) &&& 1) &&& 1)), .val (.int (((0 : Int32) &&& 1) &&& 1)), .val (.int (1 : Int32)), .val (.int (0 : Int32))] [])) _
        refine XS.iload X70.here hx rfl (hb hby at_144) rfl ?_
        show Steps p.tables e below (T70.setTop (mkF m 146 #[.val (.int p0), .val (.int p1), .val (.int p2), .val (.int p3), .val (.int p4), .val (.int p5), .val (.int (0 : Int32)), .val (.int (0 : Int32)), .val (.int ac), .val (.ref cd), .val (.int (((1 : Int32) &&& 1) &&& 1)), .val (.int (((0 : Int32) &&& 1) &&& 1)), .val (.int (1 : Int32)), .val (.int (0 : Int32))] [(.int (((0 : Int32) &&& 1) &&& 1))])) _
        refine XS.iload X70.here hx rfl (hb hby at_146) rfl ?_
        show Steps p.tables e below (T70.setTop (mkF m 148 #[.val (.int p0), .val (.int p1), .val (.int p2), .val (.int p3), .val (.int p4), .val (.int p5), .val (.int (0 : Int32)), .val (.int (0 : Int32)), .val (.int ac), .val (.ref cd), .val (.int (((1 : Int32) &&& 1) &&& 1)), .val (.int (((0 : Int32) &&& 1) &&& 1)), .val (.int (1 : Int32)), .val (.int (0 : Int32))] [(.int (0 : Int32)), (.int (((0 : Int32) &&& 1) &&& 1))])) _
        refine XS.icmpNo X70.here hx rfl (hb hby at_148) rfl (teq (by decide : (((0 : Int32) &&& 1) &&& 1) = (0 : Int32))).2 ?_
        show Steps p.tables e below (T70.setTop (mkF m 151 #[.val (.int p0), .val (.int p1), .val (.int p2), .val (.int p3), .val (.int p4), .val (.int p5), .val (.int (0 : Int32)), .val (.int (0 : Int32)), .val (.int ac), .val (.ref cd), .val (.int (((1 : Int32) &&& 1) &&& 1)), .val (.int (((0 : Int32) &&& 1) &&& 1)), .val (.int (1 : Int32)), .val (.int (0 : Int32))] [])) _
        refine XS.aload X70.here hx rfl (hb hby at_151) rfl rfl ?_
        show Steps p.tables e below (T70.setTop (mkF m 153 #[.val (.int p0), .val (.int p1), .val (.int p2), .val (.int p3), .val (.int p4), .val (.int p5), .val (.int (0 : Int32)), .val (.int (0 : Int32)), .val (.int ac), .val (.ref cd), .val (.int (((1 : Int32) &&& 1) &&& 1)), .val (.int (((0 : Int32) &&& 1) &&& 1)), .val (.int (1 : Int32)), .val (.int (0 : Int32))] [(.ref cd)])) _
        refine st71.trans ?_
        show Steps p.tables e below (T71.setTop (mkF m 156 #[.val (.int p0), .val (.int p1), .val (.int p2), .val (.int p3), .val (.int p4), .val (.int p5), .val (.int (0 : Int32)), .val (.int (0 : Int32)), .val (.int ac), .val (.ref cd), .val (.int (((1 : Int32) &&& 1) &&& 1)), .val (.int (((0 : Int32) &&& 1) &&& 1)), .val (.int (1 : Int32)), .val (.int (0 : Int32))] [(.int (if ((2 : Int32) - (1 : Int32)) = 0 then 1 else 0 : Int32))])) _
        refine XS.iload X71.here hx rfl (hb hby at_156) rfl ?_
        show Steps p.tables e below (T71.setTop (mkF m 158 #[.val (.int p0), .val (.int p1), .val (.int p2), .val (.int p3), .val (.int p4), .val (.int p5), .val (.int (0 : Int32)), .val (.int (0 : Int32)), .val (.int ac), .val (.ref cd), .val (.int (((1 : Int32) &&& 1) &&& 1)), .val (.int (((0 : Int32) &&& 1) &&& 1)), .val (.int (1 : Int32)), .val (.int (0 : Int32))] [(.int (0 : Int32)), (.int (if ((2 : Int32) - (1 : Int32)) = 0 then 1 else 0 : Int32))])) _
        refine XS.icmpNo X71.here hx rfl (hb hby at_158) rfl (teq (by decide : (if ((2 : Int32) - (1 : Int32)) = 0 then 1 else 0 : Int32) = (0 : Int32))).2 ?_
        show Steps p.tables e below (T71.setTop (mkF m 161 #[.val (.int p0), .val (.int p1), .val (.int p2), .val (.int p3), .val (.int p4), .val (.int p5), .val (.int (0 : Int32)), .val (.int (0 : Int32)), .val (.int ac), .val (.ref cd), .val (.int (((1 : Int32) &&& 1) &&& 1)), .val (.int (((0 : Int32) &&& 1) &&& 1)), .val (.int (1 : Int32)), .val (.int (0 : Int32))] [])) _
        refine XS.aload X71.here hx rfl (hb hby at_161) rfl rfl ?_
        show Steps p.tables e below (T71.setTop (mkF m 163 #[.val (.int p0), .val (.int p1), .val (.int p2), .val (.int p3), .val (.int p4), .val (.int p5), .val (.int (0 : Int32)), .val (.int (0 : Int32)), .val (.int ac), .val (.ref cd), .val (.int (((1 : Int32) &&& 1) &&& 1)), .val (.int (((0 : Int32) &&& 1) &&& 1)), .val (.int (1 : Int32)), .val (.int (0 : Int32))] [(.ref cd)])) _
        refine st72.trans ?_
        show Steps p.tables e below (T72.setTop (mkF m 166 #[.val (.int p0), .val (.int p1), .val (.int p2), .val (.int p3), .val (.int p4), .val (.int p5), .val (.int (0 : Int32)), .val (.int (0 : Int32)), .val (.int ac), .val (.ref cd), .val (.int (((1 : Int32) &&& 1) &&& 1)), .val (.int (((0 : Int32) &&& 1) &&& 1)), .val (.int (1 : Int32)), .val (.int (0 : Int32))] [(.int (2 : Int32))])) _
        refine XS.iconst X72.here hx rfl (hb hby at_166) ?_
        show Steps p.tables e below (T72.setTop (mkF m 167 #[.val (.int p0), .val (.int p1), .val (.int p2), .val (.int p3), .val (.int p4), .val (.int p5), .val (.int (0 : Int32)), .val (.int (0 : Int32)), .val (.int ac), .val (.ref cd), .val (.int (((1 : Int32) &&& 1) &&& 1)), .val (.int (((0 : Int32) &&& 1) &&& 1)), .val (.int (1 : Int32)), .val (.int (0 : Int32))] [(.int (2 : Int32)), (.int (2 : Int32))])) _
        refine XS.icmpNo X72.here hx rfl (hb hby at_167) rfl (teq (by decide : (2 : Int32) = (2 : Int32))).2 ?_
        show Steps p.tables e below (T72.setTop (mkF m 170 #[.val (.int p0), .val (.int p1), .val (.int p2), .val (.int p3), .val (.int p4), .val (.int p5), .val (.int (0 : Int32)), .val (.int (0 : Int32)), .val (.int ac), .val (.ref cd), .val (.int (((1 : Int32) &&& 1) &&& 1)), .val (.int (((0 : Int32) &&& 1) &&& 1)), .val (.int (1 : Int32)), .val (.int (0 : Int32))] [])) _
        refine XS.iconst X72.here hx rfl (hb hby at_170) ?_
        show Steps p.tables e below (T72.setTop (mkF m 171 #[.val (.int p0), .val (.int p1), .val (.int p2), .val (.int p3), .val (.int p4), .val (.int p5), .val (.int (0 : Int32)), .val (.int (0 : Int32)), .val (.int ac), .val (.ref cd), .val (.int (((1 : Int32) &&& 1) &&& 1)), .val (.int (((0 : Int32) &&& 1) &&& 1)), .val (.int (1 : Int32)), .val (.int (0 : Int32))] [(.int (1 : Int32))])) _
        refine XS.goto X72.here hx rfl (pc0 := 171) (pc' := 175) rfl (hb hby at_171) (by decide) (by decide) ?_
        show Steps p.tables e below (T72.setTop (mkF m 175 #[.val (.int p0), .val (.int p1), .val (.int p2), .val (.int p3), .val (.int p4), .val (.int p5), .val (.int (0 : Int32)), .val (.int (0 : Int32)), .val (.int ac), .val (.ref cd), .val (.int (((1 : Int32) &&& 1) &&& 1)), .val (.int (((0 : Int32) &&& 1) &&& 1)), .val (.int (1 : Int32)), .val (.int (0 : Int32))] [(.int (1 : Int32))])) _
        exact k_)
    obtain ⟨fs, hr, hrun, hended, hW, hsame⟩ := X72.leave (v := some (.int (1 : Int32))) (fun h => by rw [Bd.returns] at h; cases h)
    refine ⟨_, _, pre73 _ ?_, hrun, hended, _, _, rfl, ?_, ⟨_, rfl⟩, hW, hsame.mono (by decide) (by decide)⟩
    · exact retN X72 hx (t := .boolean) Bd.returns (by simp) (hb hby at_175) hr
    · show Q0 Z p0 p1 p2 p3 p4 p5 de h0 n0 _ T72.heap _
      rw [e72]
      exact ⟨rfl, N72⟩
  ·
    obtain ⟨cq74, kq74, q74a, q74b, q74c⟩ := isOf hZ rfl f65
    obtain ⟨_, _, ⟨T74, L74, k74, n74⟩, -, X74, ⟨Lc74, hQ74, l74, y74, z74⟩, st74⟩ := X64.virtualBack hx (y := (⟨"com/example/traceloom/traceloom/discovery/Candidates", "take", "(I)V"⟩ : MethodName)) (z := (⟨"com/example/traceloom/traceloom/discovery/Candidates", "take", "(I)V"⟩ : MethodName)) hown (mvT hZ (hw _ (List.mem_of_getElem? (i := 84) rfl))) (mvT hZ (hw _ (List.mem_of_getElem? (i := 85) rfl))) (notFace_of_selects (args := #[]) (mvT hZ (hw _ (List.mem_of_getElem? (i := 87) rfl)))) (mvT hZ (hw _ (List.mem_of_getElem? (i := 87) rfl))) (mvT hZ (hw _ (List.mem_of_getElem? (i := 86) rfl))) (by decide) (backOf (W := 0) (rmTK l Z a0 hw [] cd ((0 : Int32)) 0 (2 : Int32) (2 : Int32) tk (oUpd (oUpd (fun _ => .int (0 : Int32)) 0 (.int ((0 : Int32) &&& 1))) 1 (.int ((0 : Int32) &&& 1))) T64.heap n0 Z64 f65 Fa64_size Fa64_left Fa64_taken Aa64_tk gg10 ga_tk nq_a1_tk rfl (by decide)) hZ (hw _ (List.mem_of_getElem? (i := 88) rfl)) (hw _ (List.mem_of_getElem? (i := 2) rfl)) (by decide) (by decide)) q74a q74c (g := (mkF m 69 #[.val (.int p0), .val (.int p1), .val (.int p2), .val (.int p3), .val (.int p4), .val (.int p5), .val (.int (0 : Int32)), .val (.int (1 : Int32)), .val (.int ac), .val (.ref cd), .unset, .unset, .unset, .unset] [(.int (0 : Int32)), (.ref cd)])) rfl (by rw [hml]; rfl) (Steps.refl _) (argsL := [(.int (0 : Int32))]) (rest := []) (lenOf pd0_3 rfl) rfl (by show 2 * 0 + _ ≤ _; exact Nat.le_of_eq rfl) (hb hby at_69) (fun _ _ => ⟨rfl, rfl, (by decide : 15 + 0 ≤ _), (by decide : 89 + 0 ≤ _)⟩)
    dsimp only [Pt.U, Pt.locs, Pt.cells, Pt.slots] at X74 l74 y74 z74 st74 hQ74
    subst l74 y74 z74
    obtain ⟨rfl, N74q, K74, Ft74_s, Ft74_l, Ft74_t, At74⟩ := hQ74
    have N74 := Fr.app N64 N74q
    have f75 := f65.keep K74
    have Z74 : n0 ≤ T74.heap.size := Nat.le_trans Z64 K74.1
    obtain ⟨cq76, kq76, q76a, q76b, q76c⟩ := isOf hZ rfl f75
    obtain ⟨_, _, ⟨T76, L76, k76, n76⟩, -, X76, ⟨Lc76, hQ76, l76, y76, z76⟩, st76⟩ := X74.virtualBack hx (y := (⟨"com/example/traceloom/traceloom/discovery/Candidates", "take", "(I)V"⟩ : MethodName)) (z := (⟨"com/example/traceloom/traceloom/discovery/Candidates", "take", "(I)V"⟩ : MethodName)) hown (mvT hZ (hw _ (List.mem_of_getElem? (i := 84) rfl))) (mvT hZ (hw _ (List.mem_of_getElem? (i := 85) rfl))) (notFace_of_selects (args := #[]) (mvT hZ (hw _ (List.mem_of_getElem? (i := 87) rfl)))) (mvT hZ (hw _ (List.mem_of_getElem? (i := 87) rfl))) (mvT hZ (hw _ (List.mem_of_getElem? (i := 86) rfl))) (by decide) (backOf (W := 0) (rmTK l Z a0 hw [] cd (((1 : Int32) - (0 : Int32))) 1 (2 : Int32) ((2 : Int32) - (1 : Int32)) tk (oUpd (oUpd (oUpd (fun _ => .int (0 : Int32)) 0 (.int ((0 : Int32) &&& 1))) 1 (.int ((0 : Int32) &&& 1))) 0 (.int ((1 : Int32) &&& 1))) T74.heap n0 Z74 f75 Ft74_s Ft74_l Ft74_t At74 gg10 ga_tk nq_a1_tk (by decide) (by decide)) hZ (hw _ (List.mem_of_getElem? (i := 88) rfl)) (hw _ (List.mem_of_getElem? (i := 2) rfl)) (by decide) (by decide)) q76a q76c (g := (mkF m 83 #[.val (.int p0), .val (.int p1), .val (.int p2), .val (.int p3), .val (.int p4), .val (.int p5), .val (.int (0 : Int32)), .val (.int (1 : Int32)), .val (.int ac), .val (.ref cd), .unset, .unset, .unset, .unset] [(.int ((1 : Int32) - (0 : Int32))), (.ref cd)])) rfl (by rw [hml]; rfl) (Steps.refl _) (argsL := [(.int ((1 : Int32) - (0 : Int32)))]) (rest := []) (lenOf pd0_3 rfl) rfl (by show 2 * 0 + _ ≤ _; exact Nat.le_of_eq rfl) (hb hby at_83) (fun _ _ => ⟨rfl, rfl, (by decide : 15 + 0 ≤ _), (by decide : 89 + 0 ≤ _)⟩)
    dsimp only [Pt.U, Pt.locs, Pt.cells, Pt.slots] at X76 l76 y76 z76 st76 hQ76
    subst l76 y76 z76
    obtain ⟨rfl, N76q, K76, Ft76_s, Ft76_l, Ft76_t, At76⟩ := hQ76
    have N76 := Fr.app N74 N76q
    have f77 := f75.keep K76
    have Z76 : n0 ≤ T76.heap.size := Nat.le_trans Z74 K76.1
    obtain ⟨cq78, kq78, q78a, q78b, q78c⟩ := isOf hZ rfl f77
    obtain ⟨_, _, ⟨T78, L78, k78, n78⟩, -, X78, ⟨Lc78, hQ78, l78, y78, z78⟩, st78⟩ := X76.virtualBack hx (y := (⟨"com/example/traceloom/traceloom/discovery/Candidates", "taken", "(I)Z"⟩ : MethodName)) (z := (⟨"com/example/traceloom/traceloom/discovery/Candidates", "taken", "(I)Z"⟩ : MethodName)) hown (mvT hZ (hw _ (List.mem_of_getElem? (i := 89) rfl))) (mvT hZ (hw _ (List.mem_of_getElem? (i := 90) rfl))) (notFace_of_selects (args := #[]) (mvT hZ (hw _ (List.mem_of_getElem? (i := 92) rfl)))) (mvT hZ (hw _ (List.mem_of_getElem? (i := 92) rfl))) (mvT hZ (hw _ (List.mem_of_getElem? (i := 91) rfl))) (by decide) (backOf (W := 0) (rmTA l Z a0 hw [] cd ((0 : Int32)) 0 (2 : Int32) (((2 : Int32) - (1 : Int32)) - (1 : Int32)) tk (oUpd (oUpd (oUpd (oUpd (fun _ => .int (0 : Int32)) 0 (.int ((0 : Int32) &&& 1))) 1 (.int ((0 : Int32) &&& 1))) 0 (.int ((1 : Int32) &&& 1))) 1 (.int ((1 : Int32) &&& 1))) ((1 : Int32) &&& 1) T76.heap n0 Z76 f77 Ft76_s Ft76_l Ft76_t At76 gg10 ga_tk nq_a1_tk rfl (by decide) rfl) hZ (hw _ (List.mem_of_getElem? (i := 93) rfl)) (hw _ (List.mem_of_getElem? (i := 2) rfl)) (by decide) (by decide)) q78a q78c (g := (mkF m 89 #[.val (.int p0), .val (.int p1), .val (.int p2), .val (.int p3), .val (.int p4), .val (.int p5), .val (.int (0 : Int32)), .val (.int (1 : Int32)), .val (.int ac), .val (.ref cd), .unset, .unset, .unset, .unset] [(.int (0 : Int32)), (.ref cd)])) rfl (by rw [hml]; rfl) (Steps.refl _) (argsL := [(.int (0 : Int32))]) (rest := []) (lenOf pd0_4 rfl) rfl (by show 2 * 0 + _ ≤ _; exact Nat.le_of_eq rfl) (hb hby at_89) (fun _ _ => ⟨rfl, rfl, (by decide : 15 + 0 ≤ _), (by decide : 89 + 0 ≤ _)⟩)
    dsimp only [Pt.U, Pt.locs, Pt.cells, Pt.slots] at X78 l78 y78 z78 st78 hQ78
    subst l78 y78 z78
    obtain ⟨rfl, N78q, e78⟩ := hQ78
    have N78 := Fr.app N76 N78q
    obtain ⟨cq79, kq79, q79a, q79b, q79c⟩ := isOf hZ e78 f77
    obtain ⟨_, _, ⟨T79, L79, k79, n79⟩, -, X79, ⟨Lc79, hQ79, l79, y79, z79⟩, st79⟩ := X78.virtualBack hx (y := (⟨"com/example/traceloom/traceloom/discovery/Candidates", "taken", "(I)Z"⟩ : MethodName)) (z := (⟨"com/example/traceloom/traceloom/discovery/Candidates", "taken", "(I)Z"⟩ : MethodName)) hown (mvT hZ (hw _ (List.mem_of_getElem? (i := 89) rfl))) (mvT hZ (hw _ (List.mem_of_getElem? (i := 90) rfl))) (notFace_of_selects (args := #[]) (mvT hZ (hw _ (List.mem_of_getElem? (i := 92) rfl)))) (mvT hZ (hw _ (List.mem_of_getElem? (i := 92) rfl))) (mvT hZ (hw _ (List.mem_of_getElem? (i := 91) rfl))) (by decide) (backOf (W := 0) (rmTA l Z a0 hw [] cd ((1 : Int32)) 1 (2 : Int32) (((2 : Int32) - (1 : Int32)) - (1 : Int32)) tk (oUpd (oUpd (oUpd (oUpd (fun _ => .int (0 : Int32)) 0 (.int ((0 : Int32) &&& 1))) 1 (.int ((0 : Int32) &&& 1))) 0 (.int ((1 : Int32) &&& 1))) 1 (.int ((1 : Int32) &&& 1))) ((1 : Int32) &&& 1) T76.heap n0 Z76 f77 Ft76_s Ft76_l Ft76_t At76 gg10 ga_tk nq_a1_tk rfl (by decide) rfl) hZ (hw _ (List.mem_of_getElem? (i := 93) rfl)) (hw _ (List.mem_of_getElem? (i := 2) rfl)) (by decide) (by decide)) q79a q79c (g := (mkF m 97 #[.val (.int p0), .val (.int p1), .val (.int p2), .val (.int p3), .val (.int p4), .val (.int p5), .val (.int (0 : Int32)), .val (.int (1 : Int32)), .val (.int ac), .val (.ref cd), .val (.int (((1 : Int32) &&& 1) &&& 1)), .unset, .unset, .unset] [(.int (1 : Int32)), (.ref cd)])) rfl (by rw [hml]; rfl) (Steps.refl _) (argsL := [(.int (1 : Int32))]) (rest := []) (lenOf pd0_4 rfl) rfl (by show 2 * 0 + _ ≤ _; exact Nat.le_of_eq rfl) (hb hby at_97) (fun _ _ => ⟨rfl, e78, (by decide : 15 + 0 ≤ _), (by decide : 89 + 0 ≤ _)⟩)
    dsimp only [Pt.U, Pt.locs, Pt.cells, Pt.slots] at X79 l79 y79 z79 st79 hQ79
    subst l79 y79 z79
    obtain ⟨rfl, N79q, e79⟩ := hQ79
    have N79 := Fr.app N78 N79q
    obtain ⟨cq80, kq80, q80a, q80b, q80c⟩ := isOf hZ e79 f77
    obtain ⟨_, _, ⟨T80, L80, k80, n80⟩, -, X80, ⟨Lc80, hQ80, l80, y80, z80⟩, st80⟩ := X79.virtualBack hx (y := (⟨"com/example/traceloom/traceloom/discovery/Candidates", "isEmpty", "()Z"⟩ : MethodName)) (z := (⟨"com/example/traceloom/traceloom/discovery/Candidates", "isEmpty", "()Z"⟩ : MethodName)) hown (mvT hZ (hw _ (List.mem_of_getElem? (i := 94) rfl))) (mvT hZ (hw _ (List.mem_of_getElem? (i := 95) rfl))) (notFace_of_selects (args := #[]) (mvT hZ (hw _ (List.mem_of_getElem? (i := 97) rfl)))) (mvT hZ (hw _ (List.mem_of_getElem? (i := 97) rfl))) (mvT hZ (hw _ (List.mem_of_getElem? (i := 96) rfl))) (by decide) (backOf (W := 0) (rmIE l Z a0 hw [] cd ((((2 : Int32) - (1 : Int32)) - (1 : Int32))) T76.heap n0 Z76 Ft76_l) hZ (hw _ (List.mem_of_getElem? (i := 98) rfl)) (hw _ (List.mem_of_getElem? (i := 2) rfl)) (by decide) (by decide)) q80a q80c (g := (mkF m 153 #[.val (.int p0), .val (.int p1), .val (.int p2), .val (.int p3), .val (.int p4), .val (.int p5), .val (.int (0 : Int32)), .val (.int (1 : Int32)), .val (.int ac), .val (.ref cd), .val (.int (((1 : Int32) &&& 1) &&& 1)), .val (.int (((1 : Int32) &&& 1) &&& 1)), .val (.int (1 : Int32)), .val (.int (1 : Int32))] [(.ref cd)])) rfl (by rw [hml]; rfl) (Steps.refl _) (argsL := []) (rest := []) (lenOf pd0_5 rfl) rfl (by show 2 * 0 + _ ≤ _; exact Nat.le_of_eq rfl) (hb hby at_153) (fun _ _ => ⟨rfl, e79, (by decide : 15 + 0 ≤ _), (by decide : 89 + 0 ≤ _)⟩)
    dsimp only [Pt.U, Pt.locs, Pt.cells, Pt.slots] at X80 l80 y80 z80 st80 hQ80
    subst l80 y80 z80
    obtain ⟨rfl, N80q, e80⟩ := hQ80
    have N80 := Fr.app N79 N80q
    obtain ⟨cq81, kq81, q81a, q81b, q81c⟩ := isOf hZ e80 f77
    obtain ⟨_, _, ⟨T81, L81, k81, n81⟩, -, X81, ⟨Lc81, hQ81, l81, y81, z81⟩, st81⟩ := X80.virtualBack hx (y := (⟨"com/example/traceloom/traceloom/discovery/Candidates", "size", "()I"⟩ : MethodName)) (z := (⟨"com/example/traceloom/traceloom/discovery/Candidates", "size", "()I"⟩ : MethodName)) hown (mvT hZ (hw _ (List.mem_of_getElem? (i := 99) rfl))) (mvT hZ (hw _ (List.mem_of_getElem? (i := 100) rfl))) (notFace_of_selects (args := #[]) (mvT hZ (hw _ (List.mem_of_getElem? (i := 102) rfl)))) (mvT hZ (hw _ (List.mem_of_getElem? (i := 102) rfl))) (mvT hZ (hw _ (List.mem_of_getElem? (i := 101) rfl))) (by decide) (backOf (W := 0) (rmSZ l Z a0 hw [] cd ((2 : Int32)) T76.heap n0 Z76 Ft76_s) hZ (hw _ (List.mem_of_getElem? (i := 103) rfl)) (hw _ (List.mem_of_getElem? (i := 2) rfl)) (by decide) (by decide)) q81a q81c (g := (mkF m 163 #[.val (.int p0), .val (.int p1), .val (.int p2), .val (.int p3), .val (.int p4), .val (.int p5), .val (.int (0 : Int32)), .val (.int (1 : Int32)), .val (.int ac), .val (.ref cd), .val (.int (((1 : Int32) &&& 1) &&& 1)), .val (.int (((1 : Int32) &&& 1) &&& 1)), .val (.int (1 : Int32)), .val (.int (1 : Int32))] [(.ref cd)])) rfl (by rw [hml]; rfl) (Steps.refl _) (argsL := []) (rest := []) (lenOf pd0_6 rfl) rfl (by show 2 * 0 + _ ≤ _; exact Nat.le_of_eq rfl) (hb hby at_163) (fun _ _ => ⟨rfl, e80, (by decide : 15 + 0 ≤ _), (by decide : 89 + 0 ≤ _)⟩)
    dsimp only [Pt.U, Pt.locs, Pt.cells, Pt.slots] at X81 l81 y81 z81 st81 hQ81
    subst l81 y81 z81
    obtain ⟨rfl, N81q, e81⟩ := hQ81
    have N81 := Fr.app N80 N81q
    have pre82 : ∀ t, Steps p.tables e below (T81.setTop (mkF m 175 #[.val (.int p0), .val (.int p1), .val (.int p2), .val (.int p3), .val (.int p4), .val (.int p5), .val (.int (0 : Int32)), .val (.int (1 : Int32)), .val (.int ac), .val (.ref cd), .val (.int (((1 : Int32) &&& 1) &&& 1)), .val (.int (((1 : Int32) &&& 1) &&& 1)), .val (.int (1 : Int32)), .val (.int (1 : Int32))] [(.int (1 : Int32))])) t → Steps p.tables e below (s₁.setTop (entryFrame m #[(.int p0), (.int p1), (.int p2), (.int p3), (.int p4), (.int p5)] maxLocals)) t := fun t_ k_ => pre66 t_ (by
        refine XS.aload X64.here hx rfl (hb hby at_65) rfl rfl ?_
        show Steps p.tables e below (T64.setTop (mkF m 67 #[.val (.int p0), .val (.int p1), .val (.int p2), .val (.int p3), .val (.int p4), .val (.int p5), .val (.int (0 : Int32)), .val (.int (1 : Int32)), .val (.int ac), .val (.ref cd), .unset, .unset, .unset, .unset] [(.ref cd)])) _
        refine XS.iload X64.here hx rfl (hb hby at_67) rfl ?_
        show Steps p.tables e below (T64.setTop (mkF m 69 #[.val (.int p0), .val (.int p1), .val (.int p2), .val (.int p3), .val (.int p4), .val (.int p5), .val (.int (0 : Int32)), .val (.int (1 : Int32)), .val (.int ac), .val (.ref cd), .unset, .unset, .unset, .unset] [(.int (0 : Int32)), (.ref cd)])) _
        refine st74.trans ?_
        show Steps p.tables e below (T74.setTop (mkF m 72 #[.val (.int p0), .val (.int p1), .val (.int p2), .val (.int p3), .val (.int p4), .val (.int p5), .val (.int (0 : Int32)), .val (.int (1 : Int32)), .val (.int ac), .val (.ref cd), .unset, .unset, .unset, .unset] [])) _
        refine XS.iload X74.here hx rfl (hb hby at_72) rfl ?_
        show Steps p.tables e below (T74.setTop (mkF m 74 #[.val (.int p0), .val (.int p1), .val (.int p2), .val (.int p3), .val (.int p4), .val (.int p5), .val (.int (0 : Int32)), .val (.int (1 : Int32)), .val (.int ac), .val (.ref cd), .unset, .unset, .unset, .unset] [(.int (1 : Int32))])) _
        refine XS.ifNo X74.here hx rfl (hb hby at_74) rfl ((if0 _ _).trans (feq (by decide : ¬ ((1 : Int32) = (0 : Int32)))).1) ?_
        show Steps p.tables e below (T74.setTop (mkF m 77 #[.val (.int p0), .val (.int p1), .val (.int p2), .val (.int p3), .val (.int p4), .val (.int p5), .val (.int (0 : Int32)), .val (.int (1 : Int32)), .val (.int ac), .val (.ref cd), .unset, .unset, .unset, .unset] [])) _
        refine XS.aload X74.here hx rfl (hb hby at_77) rfl rfl ?_
        show Steps p.tables e below (T74.setTop (mkF m 79 #[.val (.int p0), .val (.int p1), .val (.int p2), .val (.int p3), .val (.int p4), .val (.int p5), .val (.int (0 : Int32)), .val (.int (1 : Int32)), .val (.int ac), .val (.ref cd), .unset, .unset, .unset, .unset] [(.ref cd)])) _
        refine XS.iconst X74.here hx rfl (hb hby at_79) ?_
        show Steps p.tables e below (T74.setTop (mkF m 80 #[.val (.int p0), .val (.int p1), .val (.int p2), .val (.int p3), .val (.int p4), .val (.int p5), .val (.int (0 : Int32)), .val (.int (1 : Int32)), .val (.int ac), .val (.ref cd), .unset, .unset, .unset, .unset] [(.int (1 : Int32)), (.ref cd)])) _
        refine XS.iload X74.here hx rfl (hb hby at_80) rfl ?_
        show Steps p.tables e below (T74.setTop (mkF m 82 #[.val (.int p0), .val (.int p1), .val (.int p2), .val (.int p3), .val (.int p4), .val (.int p5), .val (.int (0 : Int32)), .val (.int (1 : Int32)), .val (.int ac), .val (.ref cd), .unset, .unset, .unset, .unset] [(.int (0 : Int32)), (.int (1 : Int32)), (.ref cd)])) _
        refine XS.isub X74.here hx rfl (hb hby at_82) rfl ?_
        show Steps p.tables e below (T74.setTop (mkF m 83 #[.val (.int p0), .val (.int p1), .val (.int p2), .val (.int p3), .val (.int p4), .val (.int p5), .val (.int (0 : Int32)), .val (.int (1 : Int32)), .val (.int ac), .val (.ref cd), .unset, .unset, .unset, .unset] [(.int ((1 : Int32) - (0 : Int32))), (.ref cd)])) _
        refine st76.trans ?_
        show Steps p.tables e below (T76.setTop (mkF m 86 #[.val (.int p0), .val (.int p1), .val (.int p2), .val (.int p3), .val (.int p4), .val (.int p5), .val (.int (0 : Int32)), .val (.int (1 : Int32)), .val (.int ac), .val (.ref cd), .unset, .unset, .unset, .unset] [])) _
        refine XS.aload X76.here hx rfl (hb hby at_86) rfl rfl ?_
        show Steps p.tables e below (T76.setTop (mkF m 88 #[.val (.int p0), .val (.int p1), .val (.int p2), .val (.int p3), .val (.int p4), .val (.int p5), .val (.int (0 : Int32)), .val (.int (1 : Int32)), .val (.int ac), .val (.ref cd), .unset, .unset, .unset, .unset] [(.ref cd)])) _
        refine XS.iconst X76.here hx rfl (hb hby at_88) ?_
        show Steps p.tables e below (T76.setTop (mkF m 89 #[.val (.int p0), .val (.int p1), .val (.int p2), .val (.int p3), .val (.int p4), .val (.int p5), .val (.int (0 : Int32)), .val (.int (1 : Int32)), .val (.int ac), .val (.ref cd), .unset, .unset, .unset, .unset] [(.int (0 : Int32)), (.ref cd)])) _
        refine st78.trans ?_
        show Steps p.tables e below (T78.setTop (mkF m 92 #[.val (.int p0), .val (.int p1), .val (.int p2), .val (.int p3), .val (.int p4), .val (.int p5), .val (.int (0 : Int32)), .val (.int (1 : Int32)), .val (.int ac), .val (.ref cd), .unset, .unset, .unset, .unset] [(.int (((1 : Int32) &&& 1) &&& 1))])) _
        refine XS.istore X78.here hx rfl (hb hby at_92) rfl (l' := #[.val (.int p0), .val (.int p1), .val (.int p2), .val (.int p3), .val (.int p4), .val (.int p5), .val (.int (0 : Int32)), .val (.int (1 : Int32)), .val (.int ac), .val (.ref cd), .val (.int (((1 : Int32) &&& 1) &&& 1)), .unset, .unset, .unset]) rfl ?_
        show Steps p.tables e below (T78.setTop (mkF m 94 #[.val (.int p0), .val (.int p1), .val (.int p2), .val (.int p3), .val (.int p4), .val (.int p5), .val (.int (0 : Int32)), .val (.int (1 : Int32)), .val (.int ac), .val (.ref cd), .val (.int (((1 : Int32) &&& 1) &&& 1)), .unset, .unset, .unset] [])) _
        refine XS.aload X78.here hx rfl (hb hby at_94) rfl rfl ?_
        show Steps p.tables e below (T78.setTop (mkF m 96 #[.val (.int p0), .val (.int p1), .val (.int p2), .val (.int p3), .val (.int p4), .val (.int p5), .val (.int (0 : Int32)), .val (.int (1 : Int32)), .val (.int ac), .val (.ref cd), .val (.int (((1 : Int32) &&& 1) &&& 1)), .unset, .unset, .unset] [(.ref cd)])) _
        refine XS.iconst X78.here hx rfl (hb hby at_96) ?_
        show Steps p.tables e below (T78.setTop (mkF m 97 #[.val (.int p0), .val (.int p1), .val (.int p2), .val (.int p3), .val (.int p4), .val (.int p5), .val (.int (0 : Int32)), .val (.int (1 : Int32)), .val (.int ac), .val (.ref cd), .val (.int (((1 : Int32) &&& 1) &&& 1)), .unset, .unset, .unset] [(.int (1 : Int32)), (.ref cd)])) _
        refine st79.trans ?_
        show Steps p.tables e below (T79.setTop (mkF m 100 #[.val (.int p0), .val (.int p1), .val (.int p2), .val (.int p3), .val (.int p4), .val (.int p5), .val (.int (0 : Int32)), .val (.int (1 : Int32)), .val (.int ac), .val (.ref cd), .val (.int (((1 : Int32) &&& 1) &&& 1)), .unset, .unset, .unset] [(.int (((1 : Int32) &&& 1) &&& 1))])) _
        refine XS.istore X79.here hx rfl (hb hby at_100) rfl (l' := #[.val (.int p0), .val (.int p1), .val (.int p2), .val (.int p3), .val (.int p4), .val (.int p5), .val (.int (0 : Int32)), .val (.int (1 : Int32)), .val (.int ac), .val (.ref cd), .val (.int (((1 : Int32) &&& 1) &&& 1)), .val (.int (((1 : Int32) &&& 1) &&& 1)), .unset, .unset]) rfl ?_
        show Steps p.tables e below (T79.setTop (mkF m 102 #[.val (.int p0), .val (.int p1), .val (.int p2), .val (.int p3), .val (.int p4), .val (.int p5), .val (.int (0 : Int32)), .val (.int (1 : Int32)), .val (.int ac), .val (.ref cd), .val (.int (((1 : Int32) &&& 1) &&& 1)), .val (.int (((1 : Int32) &&& 1) &&& 1)), .unset, .unset] [])) _
        refine XS.iload X79.here hx rfl (hb hby at_102) rfl ?_
        show Steps p.tables e below (T79.setTop (mkF m 104 #[.val (.int p0), .val (.int p1), .val (.int p2), .val (.int p3), .val (.int p4), .val (.int p5), .val (.int (0 : Int32)), .val (.int (1 : Int32)), .val (.int ac), .val (.ref cd), .val (.int (((1 : Int32) &&& 1) &&& 1)), .val (.int (((1 : Int32) &&& 1) &&& 1)), .unset, .unset] [(.int (0 : Int32))])) _
        refine XS.ifYes X79.here hx rfl (pc0 := 104) (pc' := 112) rfl (hb hby at_104) rfl ((if0 _ _).trans (teq (by decide : (0 : Int32) = (0 : Int32))).1) (by decide) (by decide) ?_
        show Steps p.tables e below (T79.setTop (mkF m 112 #[.val (.int p0), .val (.int p1), .val (.int p2), .val (.int p3), .val (.int p4), .val (.int p5), .val (.int (0 : Int32)), .val (.int (1 : Int32)), .val (.int ac), .val (.ref cd), .val (.int (((1 : Int32) &&& 1) &&& 1)), .val (.int (((1 : Int32) &&& 1) &&& 1)), .unset, .unset] [])) _
        refine XS.iconst X79.here hx rfl (hb hby at_112) ?_
        show Steps p.tables e below (T79.setTop (mkF m 113 #[.val (.int p0), .val (.int p1), .val (.int p2), .val (.int p3), .val (.int p4), .val (.int p5), .val (.int (0 : Int32)), .val (.int (1 : Int32)), .val (.int ac), .val (.ref cd), .val (.int (((1 : Int32) &&& 1) &&& 1)), .val (.int (((1 : Int32) &&& 1) &&& 1)), .unset, .unset] [(.int (1 : Int32))])) _
        refine XS.goto X79.here hx rfl (pc0 := 113) (pc' := 117) rfl (hb hby at_113) (by decide) (by decide) ?_
        show Steps p.tables e below (T79.setTop (mkF m 117 #[.val (.int p0), .val (.int p1), .val (.int p2), .val (.int p3), .val (.int p4), .val (.int p5), .val (.int (0 : Int32)), .val (.int (1 : Int32)), .val (.int ac), .val (.ref cd), .val (.int (((1 : Int32) &&& 1) &&& 1)), .val (.int (((1 : Int32) &&& 1) &&& 1)), .unset, .unset] [(.int (1 : Int32))])) _
        refine XS.istore X79.here hx rfl (hb hby at_117) rfl (l' := #[.val (.int p0), .val (.int p1), .val (.int p2), .val (.int p3), .val (.int p4), .val (.int p5), .val (.int (0 : Int32)), .val (.int (1 : Int32)), .val (.int ac), .val (.ref cd), .val (.int (((1 : Int32) &&& 1) &&& 1)), .val (.int (((1 : Int32) &&& 1) &&& 1)), .val (.int (1 : Int32)), .unset]) rfl ?_
        show Steps p.tables e below (T79.setTop (mkF m 119 #[.val (.int p0), .val (.int p1), .val (.int p2), .val (.int p3), .val (.int p4), .val (.int p5), .val (.int (0 : Int32)), .val (.int (1 : Int32)), .val (.int ac), .val (.ref cd), .val (.int (((1 : Int32) &&& 1) &&& 1)), .val (.int (((1 : Int32) &&& 1) &&& 1)), .val (.int (1 : Int32)), .unset] [])) _
        refine XS.iload X79.here hx rfl (hb hby at_119) rfl ?_
        show Steps p.tables e below (T79.setTop (mkF m 121 #[.val (.int p0), .val (.int p1), .val (.int p2), .val (.int p3), .val (.int p4), .val (.int p5), .val (.int (0 : Int32)), .val (.int (1 : Int32)), .val (.int ac), .val (.ref cd), .val (.int (((1 : Int32) &&& 1) &&& 1)), .val (.int (((1 : Int32) &&& 1) &&& 1)), .val (.int (1 : Int32)), .unset] [(.int (0 : Int32))])) _
        refine XS.iconst X79.here hx rfl (hb hby at_121) ?_
        show Steps p.tables e below (T79.setTop (mkF m 122 #[.val (.int p0), .val (.int p1), .val (.int p2), .val (.int p3), .val (.int p4), .val (.int p5), .val (.int (0 : Int32)), .val (.int (1 : Int32)), .val (.int ac), .val (.ref cd), .val (.int (((1 : Int32) &&& 1) &&& 1)), .val (.int (((1 : Int32) &&& 1) &&& 1)), .val (.int (1 : Int32)), .unset] [(.int (1 : Int32)), (.int (0 : Int32))])) _
        refine XS.icmpNo X79.here hx rfl (hb hby at_122) rfl (feq (by decide : ¬ ((0 : Int32) = (1 : Int32)))).1 ?_
        show Steps p.tables e below (T79.setTop (mkF m 125 #[.val (.int p0), .val (.int p1), .val (.int p2), .val (.int p3), .val (.int p4), .val (.int p5), .val (.int (0 : Int32)), .val (.int (1 : Int32)), .val (.int ac), .val (.ref cd), .val (.int (((1 : Int32) &&& 1) &&& 1)), .val (.int (((1 : Int32) &&& 1) &&& 1)), .val (.int (1 : Int32)), .unset] [])) _
        refine XS.iload X79.here hx rfl (hb hby at_125) rfl ?_
        show Steps p.tables e below (T79.setTop (mkF m 127 #[.val (.int p0), .val (.int p1), .val (.int p2), .val (.int p3), .val (.int p4), .val (.int p5), .val (.int (0 : Int32)), .val (.int (1 : Int32)), .val (.int ac), .val (.ref cd), .val (.int (((1 : Int32) &&& 1) &&& 1)), .val (.int (((1 : Int32) &&& 1) &&& 1)), .val (.int (1 : Int32)), .unset] [(.int (1 : Int32))])) _
        refine XS.ifNo X79.here hx rfl (hb hby at_127) rfl ((if0 _ _).trans (feq (by decide : ¬ ((1 : Int32) = (0 : Int32)))).1) ?_
        show Steps p.tables e below (T79.setTop (mkF m 130 #[.val (.int p0), .val (.int p1), .val (.int p2), .val (.int p3), .val (.int p4), .val (.int p5), .val (.int (0 : Int32)), .val (.int (1 : Int32)), .val (.int ac), .val (.ref cd), .val (.int (((1 : Int32) &&& 1) &&& 1)), .val (.int (((1 : Int32) &&& 1) &&& 1)), .val (.int (1 : Int32)), .unset] [])) _
        refine XS.iconst X79.here hx rfl (hb hby at_130) ?_
        show Steps p.tables e below (T79.setTop (mkF m 131 #[.val (.int p0), .val (.int p1), .val (.int p2), .val (.int p3), .val (.int p4), .val (.int p5), .val (.int (0 : Int32)), .val (.int (1 : Int32)), .val (.int ac), .val (.ref cd), .val (.int (((1 : Int32) &&& 1) &&& 1)), .val (.int (((1 : Int32) &&& 1) &&& 1)), .val (.int (1 : Int32)), .unset] [(.int (1 : Int32))])) _
        refine XS.goto X79.here hx rfl (pc0 := 131) (pc' := 135) rfl (hb hby at_131) (by decide) (by decide) ?_
        show Steps p.tables e below (T79.setTop (mkF m 135 #[.val (.int p0), .val (.int p1), .val (.int p2), .val (.int p3), .val (.int p4), .val (.int p5), .val (.int (0 : Int32)), .val (.int (1 : Int32)), .val (.int ac), .val (.ref cd), .val (.int (((1 : Int32) &&& 1) &&& 1)), .val (.int (((1 : Int32) &&& 1) &&& 1)), .val (.int (1 : Int32)), .unset] [(.int (1 : Int32))])) _
        refine XS.istore X79.here hx rfl (hb hby at_135) rfl (l' := #[.val (.int p0), .val (.int p1), .val (.int p2), .val (.int p3), .val (.int p4), .val (.int p5), .val (.int (0 : Int32)), .val (.int (1 : Int32)), .val (.int ac), .val (.ref cd), .val (.int (((1 : Int32) &&& 1) &&& 1)), .val (.int (((1 : Int32) &&& 1) &&& 1)), .val (.int (1 : Int32)), .val (.int (1 : Int32))]) rfl ?_
        show Steps p.tables e below (T79.setTop (mkF m 137 #[.val (.int p0), .val (.int p1), .val (.int p2), .val (.int p3), .val (.int p4), .val (.int p5), .val (.int (0 : Int32)), .val (.int (1 : Int32)), .val (.int ac), .val (.ref cd), .val (.int (((1 : Int32) &&& 1) &&& 1)), .val (.int (((1 : Int32) &&& 1) &&& 1)), .val (.int (1 : Int32)), .val (.int (1 : Int32))] [])) _
        refine XS.iload X79.here hx rfl (hb hby at_137) rfl ?_
        show Steps p.tables e below (T79.setTop (mkF m 139 #[.val (.int p0), .val (.int p1), .val (.int p2), .val (.int p3), .val (.int p4), .val (.int p5), .val (.int (0 : Int32)), .val (.int (1 : Int32)), .val (.int ac), .val (.ref cd), .val (.int (((1 : Int32) &&& 1) &&& 1)), .val (.int (((1 : Int32) &&& 1) &&& 1)), .val (.int (1 : Int32)), .val (.int (1 : Int32))] [(.int (((1 : Int32) &&& 1) &&& 1))])) _
        refine XS.iload X79.here hx rfl (hb hby at_139) rfl ?_
        show Steps p.tables e below (T79.setTop (mkF m 141 #[.val (.int p0), .val (.int p1), .val (.int p2), .val (.int p3), .val (.int p4), .val (.int p5), .val (.int (0 : Int32)), .val (.int (1 : Int32)), .val (.int ac), .val (.ref cd), .val (.int (((1 : Int32) &&& 1) &&& 1)), .val (.int (((1 : Int32) &&& 1) &&& 1)), .val (.int (1 : Int32)), .val (.int (1 : Int32))] [(.int (1 : Int32)), (.int (((1 : Int32) &&& 1) &&& 1))])) _
        refine XS.icmpNo X79.here hx rfl (hb hby at_141) rfl (teq (by decide : (((1 : Int32) &&& 1) &&& 1) = (1 : Int32))).2 ?_
        show Steps p.tables e below (T79.setTop (mkF m 144 #[.val (.int p0), .val (.int p1), .val (.int p2), .val (.int p3), .val (.int p4), .val (.int p5), .val (.int (0 : Int32)), .val (.int (1 : Int32)), .val (.int ac), .val (.ref cd), .val (.int (((1 : Int32) &&& 1) &&& 1)), .val (.int (((1 : Int32) &&& 1) &&& 1)), .val (.int (1 : Int32)), .val (.int (1 : Int32))] [])) _
        refine XS.iload X79.here hx rfl (hb hby at_144) rfl ?_
        show Steps p.tables e below (T79.setTop (mkF m 146 #[.val (.int p0), .val (.int p1), .val (.int p2), .val (.int p3), .val (.int p4), .val (.int p5), .val (.int (0 : Int32)), .val (.int (1 : Int32)), .val (.int ac), .val (.ref cd), .val (.int (((1 : Int32) &&& 1) &&& 1)), .val (.int (((1 : Int32) &&& 1) &&& 1)), .val (.int (1 : Int32)), .val (.int (1 : Int32))] [(.int (((1 : Int32) &&& 1) &&& 1))])) _
        refine XS.iload X79.here hx rfl (hb hby at_146) rfl ?_
        show Steps p.tables e below (T79.setTop (mkF m 148 #[.val (.int p0), .val (.int p1), .val (.int p2), .val (.int p3), .val (.int p4), .val (.int p5), .val (.int (0 : Int32)), .val (.int (1 : Int32)), .val (.int ac), .val (.ref cd), .val (.int (((1 : Int32) &&& 1) &&& 1)), .val (.int (((1 : Int32) &&& 1) &&& 1)), .val (.int (1 : Int32)), .val (.int (1 : Int32))] [(.int (1 : Int32)), (.int (((1 : Int32) &&& 1) &&& 1))])) _
        refine XS.icmpNo X79.here hx rfl (hb hby at_148) rfl (teq (by decide : (((1 : Int32) &&& 1) &&& 1) = (1 : Int32))).2 ?_
        show Steps p.tables e below (T79.setTop (mkF m 151 #[.val (.int p0), .val (.int p1), .val (.int p2), .val (.int p3), .val (.int p4), .val (.int p5), .val (.int (0 : Int32)), .val (.int (1 : Int32)), .val (.int ac), .val (.ref cd), .val (.int (((1 : Int32) &&& 1) &&& 1)), .val (.int (((1 : Int32) &&& 1) &&& 1)), .val (.int (1 : Int32)), .val (.int (1 : Int32))] [])) _
        refine XS.aload X79.here hx rfl (hb hby at_151) rfl rfl ?_
        show Steps p.tables e below (T79.setTop (mkF m 153 #[.val (.int p0), .val (.int p1), .val (.int p2), .val (.int p3), .val (.int p4), .val (.int p5), .val (.int (0 : Int32)), .val (.int (1 : Int32)), .val (.int ac), .val (.ref cd), .val (.int (((1 : Int32) &&& 1) &&& 1)), .val (.int (((1 : Int32) &&& 1) &&& 1)), .val (.int (1 : Int32)), .val (.int (1 : Int32))] [(.ref cd)])) _
        refine st80.trans ?_
        show Steps p.tables e below (T80.setTop (mkF m 156 #[.val (.int p0), .val (.int p1), .val (.int p2), .val (.int p3), .val (.int p4), .val (.int p5), .val (.int (0 : Int32)), .val (.int (1 : Int32)), .val (.int ac), .val (.ref cd), .val (.int (((1 : Int32) &&& 1) &&& 1)), .val (.int (((1 : Int32) &&& 1) &&& 1)), .val (.int (1 : Int32)), .val (.int (1 : Int32))] [(.int (if (((2 : Int32) - (1 : Int32)) - (1 : Int32)) = 0 then 1 else 0 : Int32))])) _
        refine XS.iload X80.here hx rfl (hb hby at_156) rfl ?_
        show Steps p.tables e below (T80.setTop (mkF m 158 #[.val (.int p0), .val (.int p1), .val (.int p2), .val (.int p3), .val (.int p4), .val (.int p5), .val (.int (0 : Int32)), .val (.int (1 : Int32)), .val (.int ac), .val (.ref cd), .val (.int (((1 : Int32) &&& 1) &&& 1)), .val (.int (((1 : Int32) &&& 1) &&& 1)), .val (.int (1 : Int32)), .val (.int (1 : Int32))] [(.int (1 : Int32)), (.int (if (((2 : Int32) - (1 : Int32)) - (1 : Int32)) = 0 then 1 else 0 : Int32))])) _
        refine XS.icmpNo X80.here hx rfl (hb hby at_158) rfl (teq (by decide : (if (((2 : Int32) - (1 : Int32)) - (1 : Int32)) = 0 then 1 else 0 : Int32) = (1 : Int32))).2 ?_
        show Steps p.tables e below (T80.setTop (mkF m 161 #[.val (.int p0), .val (.int p1), .val (.int p2), .val (.int p3), .val (.int p4), .val (.int p5), .val (.int (0 : Int32)), .val (.int (1 : Int32)), .val (.int ac), .val (.ref cd), .val (.int (((1 : Int32) &&& 1) &&& 1)), .val (.int (((1 : Int32) &&& 1) &&& 1)), .val (.int (1 : Int32)), .val (.int (1 : Int32))] [])) _
        refine XS.aload X80.here hx rfl (hb hby at_161) rfl rfl ?_
        show Steps p.tables e below (T80.setTop (mkF m 163 #[.val (.int p0), .val (.int p1), .val (.int p2), .val (.int p3), .val (.int p4), .val (.int p5), .val (.int (0 : Int32)), .val (.int (1 : Int32)), .val (.int ac), .val (.ref cd), .val (.int (((1 : Int32) &&& 1) &&& 1)), .val (.int (((1 : Int32) &&& 1) &&& 1)), .val (.int (1 : Int32)), .val (.int (1 : Int32))] [(.ref cd)])) _
        refine st81.trans ?_
        show Steps p.tables e below (T81.setTop (mkF m 166 #[.val (.int p0), .val (.int p1), .val (.int p2), .val (.int p3), .val (.int p4), .val (.int p5), .val (.int (0 : Int32)), .val (.int (1 : Int32)), .val (.int ac), .val (.ref cd), .val (.int (((1 : Int32) &&& 1) &&& 1)), .val (.int (((1 : Int32) &&& 1) &&& 1)), .val (.int (1 : Int32)), .val (.int (1 : Int32))] [(.int (2 : Int32))])) _
        refine XS.iconst X81.here hx rfl (hb hby at_166) ?_
        show Steps p.tables e below (T81.setTop (mkF m 167 #[.val (.int p0), .val (.int p1), .val (.int p2), .val (.int p3), .val (.int p4), .val (.int p5), .val (.int (0 : Int32)), .val (.int (1 : Int32)), .val (.int ac), .val (.ref cd), .val (.int (((1 : Int32) &&& 1) &&& 1)), .val (.int (((1 : Int32) &&& 1) &&& 1)), .val (.int (1 : Int32)), .val (.int (1 : Int32))] [(.int (2 : Int32)), (.int (2 : Int32))])) _
        refine XS.icmpNo X81.here hx rfl (hb hby at_167) rfl (teq (by decide : (2 : Int32) = (2 : Int32))).2 ?_
        show Steps p.tables e below (T81.setTop (mkF m 170 #[.val (.int p0), .val (.int p1), .val (.int p2), .val (.int p3), .val (.int p4), .val (.int p5), .val (.int (0 : Int32)), .val (.int (1 : Int32)), .val (.int ac), .val (.ref cd), .val (.int (((1 : Int32) &&& 1) &&& 1)), .val (.int (((1 : Int32) &&& 1) &&& 1)), .val (.int (1 : Int32)), .val (.int (1 : Int32))] [])) _
        refine XS.iconst X81.here hx rfl (hb hby at_170) ?_
        show Steps p.tables e below (T81.setTop (mkF m 171 #[.val (.int p0), .val (.int p1), .val (.int p2), .val (.int p3), .val (.int p4), .val (.int p5), .val (.int (0 : Int32)), .val (.int (1 : Int32)), .val (.int ac), .val (.ref cd), .val (.int (((1 : Int32) &&& 1) &&& 1)), .val (.int (((1 : Int32) &&& 1) &&& 1)), .val (.int (1 : Int32)), .val (.int (1 : Int32))] [(.int (1 : Int32))])) _
        refine XS.goto X81.here hx rfl (pc0 := 171) (pc' := 175) rfl (hb hby at_171) (by decide) (by decide) ?_
        show Steps p.tables e below (T81.setTop (mkF m 175 #[.val (.int p0), .val (.int p1), .val (.int p2), .val (.int p3), .val (.int p4), .val (.int p5), .val (.int (0 : Int32)), .val (.int (1 : Int32)), .val (.int ac), .val (.ref cd), .val (.int (((1 : Int32) &&& 1) &&& 1)), .val (.int (((1 : Int32) &&& 1) &&& 1)), .val (.int (1 : Int32)), .val (.int (1 : Int32))] [(.int (1 : Int32))])) _
        exact k_)
    obtain ⟨fs, hr, hrun, hended, hW, hsame⟩ := X81.leave (v := some (.int (1 : Int32))) (fun h => by rw [Bd.returns] at h; cases h)
    refine ⟨_, _, pre82 _ ?_, hrun, hended, _, _, rfl, ?_, ⟨_, rfl⟩, hW, hsame.mono (by decide) (by decide)⟩
    · exact retN X81 hx (t := .boolean) Bd.returns (by simp) (hb hby at_175) hr
    · show Q0 Z p0 p1 p2 p3 p4 p5 de h0 n0 _ T81.heap _
      rw [e81]
      exact ⟨rfl, N81⟩
  ·
    obtain ⟨cq83, kq83, q83a, q83b, q83c⟩ := isOf hZ rfl f65
    obtain ⟨_, _, ⟨T83, L83, k83, n83⟩, -, X83, ⟨Lc83, hQ83, l83, y83, z83⟩, st83⟩ := X64.virtualBack hx (y := (⟨"com/example/traceloom/traceloom/discovery/Candidates", "take", "(I)V"⟩ : MethodName)) (z := (⟨"com/example/traceloom/traceloom/discovery/Candidates", "take", "(I)V"⟩ : MethodName)) hown (mvT hZ (hw _ (List.mem_of_getElem? (i := 84) rfl))) (mvT hZ (hw _ (List.mem_of_getElem? (i := 85) rfl))) (notFace_of_selects (args := #[]) (mvT hZ (hw _ (List.mem_of_getElem? (i := 87) rfl)))) (mvT hZ (hw _ (List.mem_of_getElem? (i := 87) rfl))) (mvT hZ (hw _ (List.mem_of_getElem? (i := 86) rfl))) (by decide) (backOf (W := 0) (rmTK l Z a0 hw [] cd ((1 : Int32)) 1 (2 : Int32) (2 : Int32) tk (oUpd (oUpd (fun _ => .int (0 : Int32)) 0 (.int ((0 : Int32) &&& 1))) 1 (.int ((0 : Int32) &&& 1))) T64.heap n0 Z64 f65 Fa64_size Fa64_left Fa64_taken Aa64_tk gg10 ga_tk nq_a1_tk rfl (by decide)) hZ (hw _ (List.mem_of_getElem? (i := 88) rfl)) (hw _ (List.mem_of_getElem? (i := 2) rfl)) (by decide) (by decide)) q83a q83c (g := (mkF m 69 #[.val (.int p0), .val (.int p1), .val (.int p2), .val (.int p3), .val (.int p4), .val (.int p5), .val (.int (1 : Int32)), .val (.int (0 : Int32)), .val (.int ac), .val (.ref cd), .unset, .unset, .unset, .unset] [(.int (1 : Int32)), (.ref cd)])) rfl (by rw [hml]; rfl) (Steps.refl _) (argsL := [(.int (1 : Int32))]) (rest := []) (lenOf pd0_3 rfl) rfl (by show 2 * 0 + _ ≤ _; exact Nat.le_of_eq rfl) (hb hby at_69) (fun _ _ => ⟨rfl, rfl, (by decide : 15 + 0 ≤ _), (by decide : 89 + 0 ≤ _)⟩)
    dsimp only [Pt.U, Pt.locs, Pt.cells, Pt.slots] at X83 l83 y83 z83 st83 hQ83
    subst l83 y83 z83
    obtain ⟨rfl, N83q, K83, Ft83_s, Ft83_l, Ft83_t, At83⟩ := hQ83
    have N83 := Fr.app N64 N83q
    have f84 := f65.keep K83
    have Z83 : n0 ≤ T83.heap.size := Nat.le_trans Z64 K83.1
    obtain ⟨cq85, kq85, q85a, q85b, q85c⟩ := isOf hZ rfl f84
    obtain ⟨_, _, ⟨T85, L85, k85, n85⟩, -, X85, ⟨Lc85, hQ85, l85, y85, z85⟩, st85⟩ := X83.virtualBack hx (y := (⟨"com/example/traceloom/traceloom/discovery/Candidates", "taken", "(I)Z"⟩ : MethodName)) (z := (⟨"com/example/traceloom/traceloom/discovery/Candidates", "taken", "(I)Z"⟩ : MethodName)) hown (mvT hZ (hw _ (List.mem_of_getElem? (i := 89) rfl))) (mvT hZ (hw _ (List.mem_of_getElem? (i := 90) rfl))) (notFace_of_selects (args := #[]) (mvT hZ (hw _ (List.mem_of_getElem? (i := 92) rfl)))) (mvT hZ (hw _ (List.mem_of_getElem? (i := 92) rfl))) (mvT hZ (hw _ (List.mem_of_getElem? (i := 91) rfl))) (by decide) (backOf (W := 0) (rmTA l Z a0 hw [] cd ((0 : Int32)) 0 (2 : Int32) ((2 : Int32) - (1 : Int32)) tk (oUpd (oUpd (oUpd (fun _ => .int (0 : Int32)) 0 (.int ((0 : Int32) &&& 1))) 1 (.int ((0 : Int32) &&& 1))) 1 (.int ((1 : Int32) &&& 1))) ((0 : Int32) &&& 1) T83.heap n0 Z83 f84 Ft83_s Ft83_l Ft83_t At83 gg10 ga_tk nq_a1_tk rfl (by decide) rfl) hZ (hw _ (List.mem_of_getElem? (i := 93) rfl)) (hw _ (List.mem_of_getElem? (i := 2) rfl)) (by decide) (by decide)) q85a q85c (g := (mkF m 89 #[.val (.int p0), .val (.int p1), .val (.int p2), .val (.int p3), .val (.int p4), .val (.int p5), .val (.int (1 : Int32)), .val (.int (0 : Int32)), .val (.int ac), .val (.ref cd), .unset, .unset, .unset, .unset] [(.int (0 : Int32)), (.ref cd)])) rfl (by rw [hml]; rfl) (Steps.refl _) (argsL := [(.int (0 : Int32))]) (rest := []) (lenOf pd0_4 rfl) rfl (by show 2 * 0 + _ ≤ _; exact Nat.le_of_eq rfl) (hb hby at_89) (fun _ _ => ⟨rfl, rfl, (by decide : 15 + 0 ≤ _), (by decide : 89 + 0 ≤ _)⟩)
    dsimp only [Pt.U, Pt.locs, Pt.cells, Pt.slots] at X85 l85 y85 z85 st85 hQ85
    subst l85 y85 z85
    obtain ⟨rfl, N85q, e85⟩ := hQ85
    have N85 := Fr.app N83 N85q
    obtain ⟨cq86, kq86, q86a, q86b, q86c⟩ := isOf hZ e85 f84
    obtain ⟨_, _, ⟨T86, L86, k86, n86⟩, -, X86, ⟨Lc86, hQ86, l86, y86, z86⟩, st86⟩ := X85.virtualBack hx (y := (⟨"com/example/traceloom/traceloom/discovery/Candidates", "taken", "(I)Z"⟩ : MethodName)) (z := (⟨"com/example/traceloom/traceloom/discovery/Candidates", "taken", "(I)Z"⟩ : MethodName)) hown (mvT hZ (hw _ (List.mem_of_getElem? (i := 89) rfl))) (mvT hZ (hw _ (List.mem_of_getElem? (i := 90) rfl))) (notFace_of_selects (args := #[]) (mvT hZ (hw _ (List.mem_of_getElem? (i := 92) rfl)))) (mvT hZ (hw _ (List.mem_of_getElem? (i := 92) rfl))) (mvT hZ (hw _ (List.mem_of_getElem? (i := 91) rfl))) (by decide) (backOf (W := 0) (rmTA l Z a0 hw [] cd ((1 : Int32)) 1 (2 : Int32) ((2 : Int32) - (1 : Int32)) tk (oUpd (oUpd (oUpd (fun _ => .int (0 : Int32)) 0 (.int ((0 : Int32) &&& 1))) 1 (.int ((0 : Int32) &&& 1))) 1 (.int ((1 : Int32) &&& 1))) ((1 : Int32) &&& 1) T83.heap n0 Z83 f84 Ft83_s Ft83_l Ft83_t At83 gg10 ga_tk nq_a1_tk rfl (by decide) rfl) hZ (hw _ (List.mem_of_getElem? (i := 93) rfl)) (hw _ (List.mem_of_getElem? (i := 2) rfl)) (by decide) (by decide)) q86a q86c (g := (mkF m 97 #[.val (.int p0), .val (.int p1), .val (.int p2), .val (.int p3), .val (.int p4), .val (.int p5), .val (.int (1 : Int32)), .val (.int (0 : Int32)), .val (.int ac), .val (.ref cd), .val (.int (((0 : Int32) &&& 1) &&& 1)), .unset, .unset, .unset] [(.int (1 : Int32)), (.ref cd)])) rfl (by rw [hml]; rfl) (Steps.refl _) (argsL := [(.int (1 : Int32))]) (rest := []) (lenOf pd0_4 rfl) rfl (by show 2 * 0 + _ ≤ _; exact Nat.le_of_eq rfl) (hb hby at_97) (fun _ _ => ⟨rfl, e85, (by decide : 15 + 0 ≤ _), (by decide : 89 + 0 ≤ _)⟩)
    dsimp only [Pt.U, Pt.locs, Pt.cells, Pt.slots] at X86 l86 y86 z86 st86 hQ86
    subst l86 y86 z86
    obtain ⟨rfl, N86q, e86⟩ := hQ86
    have N86 := Fr.app N85 N86q
    obtain ⟨cq87, kq87, q87a, q87b, q87c⟩ := isOf hZ e86 f84
    obtain ⟨_, _, ⟨T87, L87, k87, n87⟩, -, X87, ⟨Lc87, hQ87, l87, y87, z87⟩, st87⟩ := X86.virtualBack hx (y := (⟨"com/example/traceloom/traceloom/discovery/Candidates", "isEmpty", "()Z"⟩ : MethodName)) (z := (⟨"com/example/traceloom/traceloom/discovery/Candidates", "isEmpty", "()Z"⟩ : MethodName)) hown (mvT hZ (hw _ (List.mem_of_getElem? (i := 94) rfl))) (mvT hZ (hw _ (List.mem_of_getElem? (i := 95) rfl))) (notFace_of_selects (args := #[]) (mvT hZ (hw _ (List.mem_of_getElem? (i := 97) rfl)))) (mvT hZ (hw _ (List.mem_of_getElem? (i := 97) rfl))) (mvT hZ (hw _ (List.mem_of_getElem? (i := 96) rfl))) (by decide) (backOf (W := 0) (rmIE l Z a0 hw [] cd (((2 : Int32) - (1 : Int32))) T83.heap n0 Z83 Ft83_l) hZ (hw _ (List.mem_of_getElem? (i := 98) rfl)) (hw _ (List.mem_of_getElem? (i := 2) rfl)) (by decide) (by decide)) q87a q87c (g := (mkF m 153 #[.val (.int p0), .val (.int p1), .val (.int p2), .val (.int p3), .val (.int p4), .val (.int p5), .val (.int (1 : Int32)), .val (.int (0 : Int32)), .val (.int ac), .val (.ref cd), .val (.int (((0 : Int32) &&& 1) &&& 1)), .val (.int (((1 : Int32) &&& 1) &&& 1)), .val (.int (0 : Int32)), .val (.int (1 : Int32))] [(.ref cd)])) rfl (by rw [hml]; rfl) (Steps.refl _) (argsL := []) (rest := []) (lenOf pd0_5 rfl) rfl (by show 2 * 0 + _ ≤ _; exact Nat.le_of_eq rfl) (hb hby at_153) (fun _ _ => ⟨rfl, e86, (by decide : 15 + 0 ≤ _), (by decide : 89 + 0 ≤ _)⟩)
    dsimp only [Pt.U, Pt.locs, Pt.cells, Pt.slots] at X87 l87 y87 z87 st87 hQ87
    subst l87 y87 z87
    obtain ⟨rfl, N87q, e87⟩ := hQ87
    have N87 := Fr.app N86 N87q
    obtain ⟨cq88, kq88, q88a, q88b, q88c⟩ := isOf hZ e87 f84
    obtain ⟨_, _, ⟨T88, L88, k88, n88⟩, -, X88, ⟨Lc88, hQ88, l88, y88, z88⟩, st88⟩ := X87.virtualBack hx (y := (⟨"com/example/traceloom/traceloom/discovery/Candidates", "size", "()I"⟩ : MethodName)) (z := (⟨"com/example/traceloom/traceloom/discovery/Candidates", "size", "()I"⟩ : MethodName)) hown (mvT hZ (hw _ (List.mem_of_getElem? (i := 99) rfl))) (mvT hZ (hw _ (List.mem_of_getElem? (i := 100) rfl))) (notFace_of_selects (args := #[]) (mvT hZ (hw _ (List.mem_of_getElem? (i := 102) rfl)))) (mvT hZ (hw _ (List.mem_of_getElem? (i := 102) rfl))) (mvT hZ (hw _ (List.mem_of_getElem? (i := 101) rfl))) (by decide) (backOf (W := 0) (rmSZ l Z a0 hw [] cd ((2 : Int32)) T83.heap n0 Z83 Ft83_s) hZ (hw _ (List.mem_of_getElem? (i := 103) rfl)) (hw _ (List.mem_of_getElem? (i := 2) rfl)) (by decide) (by decide)) q88a q88c (g := (mkF m 163 #[.val (.int p0), .val (.int p1), .val (.int p2), .val (.int p3), .val (.int p4), .val (.int p5), .val (.int (1 : Int32)), .val (.int (0 : Int32)), .val (.int ac), .val (.ref cd), .val (.int (((0 : Int32) &&& 1) &&& 1)), .val (.int (((1 : Int32) &&& 1) &&& 1)), .val (.int (0 : Int32)), .val (.int (1 : Int32))] [(.ref cd)])) rfl (by rw [hml]; rfl) (Steps.refl _) (argsL := []) (rest := []) (lenOf pd0_6 rfl) rfl (by show 2 * 0 + _ ≤ _; exact Nat.le_of_eq rfl) (hb hby at_163) (fun _ _ => ⟨rfl, e87, (by decide : 15 + 0 ≤ _), (by decide : 89 + 0 ≤ _)⟩)
    dsimp only [Pt.U, Pt.locs, Pt.cells, Pt.slots] at X88 l88 y88 z88 st88 hQ88
    subst l88 y88 z88
    obtain ⟨rfl, N88q, e88⟩ := hQ88
    have N88 := Fr.app N87 N88q
    have pre89 : ∀ t, Steps p.tables e below (T88.setTop (mkF m 175 #[.val (.int p0), .val (.int p1), .val (.int p2), .val (.int p3), .val (.int p4), .val (.int p5), .val (.int (1 : Int32)), .val (.int (0 : Int32)), .val (.int ac), .val (.ref cd), .val (.int (((0 : Int32) &&& 1) &&& 1)), .val (.int (((1 : Int32) &&& 1) &&& 1)), .val (.int (0 : Int32)), .val (.int (1 : Int32))] [(.int (1 : Int32))])) t → Steps p.tables e below (s₁.setTop (entryFrame m #[(.int p0), (.int p1), (.int p2), (.int p3), (.int p4), (.int p5)] maxLocals)) t := fun t_ k_ => pre66 t_ (by
        refine XS.aload X64.here hx rfl (hb hby at_65) rfl rfl ?_
        show Steps p.tables e below (T64.setTop (mkF m 67 #[.val (.int p0), .val (.int p1), .val (.int p2), .val (.int p3), .val (.int p4), .val (.int p5), .val (.int (1 : Int32)), .val (.int (0 : Int32)), .val (.int ac), .val (.ref cd), .unset, .unset, .unset, .unset] [(.ref cd)])) _
        refine XS.iload X64.here hx rfl (hb hby at_67) rfl ?_
        show Steps p.tables e below (T64.setTop (mkF m 69 #[.val (.int p0), .val (.int p1), .val (.int p2), .val (.int p3), .val (.int p4), .val (.int p5), .val (.int (1 : Int32)), .val (.int (0 : Int32)), .val (.int ac), .val (.ref cd), .unset, .unset, .unset, .unset] [(.int (1 : Int32)), (.ref cd)])) _
        refine st83.trans ?_
        show Steps p.tables e below (T83.setTop (mkF m 72 #[.val (.int p0), .val (.int p1), .val (.int p2), .val (.int p3), .val (.int p4), .val (.int p5), .val (.int (1 : Int32)), .val (.int (0 : Int32)), .val (.int ac), .val (.ref cd), .unset, .unset, .unset, .unset] [])) _
        refine XS.iload X83.here hx rfl (hb hby at_72) rfl ?_
        show Steps p.tables e below (T83.setTop (mkF m 74 #[.val (.int p0), .val (.int p1), .val (.int p2), .val (.int p3), .val (.int p4), .val (.int p5), .val (.int (1 : Int32)), .val (.int (0 : Int32)), .val (.int ac), .val (.ref cd), .unset, .unset, .unset, .unset] [(.int (0 : Int32))])) _
        refine XS.ifYes X83.here hx rfl (pc0 := 74) (pc' := 86) rfl (hb hby at_74) rfl ((if0 _ _).trans (teq (by decide : (0 : Int32) = (0 : Int32))).1) (by decide) (by decide) ?_
        show Steps p.tables e below (T83.setTop (mkF m 86 #[.val (.int p0), .val (.int p1), .val (.int p2), .val (.int p3), .val (.int p4), .val (.int p5), .val (.int (1 : Int32)), .val (.int (0 : Int32)), .val (.int ac), .val (.ref cd), .unset, .unset, .unset, .unset] [])) _
        refine XS.aload X83.here hx rfl (hb hby at_86) rfl rfl ?_
        show Steps p.tables e below (T83.setTop (mkF m 88 #[.val (.int p0), .val (.int p1), .val (.int p2), .val (.int p3), .val (.int p4), .val (.int p5), .val (.int (1 : Int32)), .val (.int (0 : Int32)), .val (.int ac), .val (.ref cd), .unset, .unset, .unset, .unset] [(.ref cd)])) _
        refine XS.iconst X83.here hx rfl (hb hby at_88) ?_
        show Steps p.tables e below (T83.setTop (mkF m 89 #[.val (.int p0), .val (.int p1), .val (.int p2), .val (.int p3), .val (.int p4), .val (.int p5), .val (.int (1 : Int32)), .val (.int (0 : Int32)), .val (.int ac), .val (.ref cd), .unset, .unset, .unset, .unset] [(.int (0 : Int32)), (.ref cd)])) _
        refine st85.trans ?_
        show Steps p.tables e below (T85.setTop (mkF m 92 #[.val (.int p0), .val (.int p1), .val (.int p2), .val (.int p3), .val (.int p4), .val (.int p5), .val (.int (1 : Int32)), .val (.int (0 : Int32)), .val (.int ac), .val (.ref cd), .unset, .unset, .unset, .unset] [(.int (((0 : Int32) &&& 1) &&& 1))])) _
        refine XS.istore X85.here hx rfl (hb hby at_92) rfl (l' := #[.val (.int p0), .val (.int p1), .val (.int p2), .val (.int p3), .val (.int p4), .val (.int p5), .val (.int (1 : Int32)), .val (.int (0 : Int32)), .val (.int ac), .val (.ref cd), .val (.int (((0 : Int32) &&& 1) &&& 1)), .unset, .unset, .unset]) rfl ?_
        show Steps p.tables e below (T85.setTop (mkF m 94 #[.val (.int p0), .val (.int p1), .val (.int p2), .val (.int p3), .val (.int p4), .val (.int p5), .val (.int (1 : Int32)), .val (.int (0 : Int32)), .val (.int ac), .val (.ref cd), .val (.int (((0 : Int32) &&& 1) &&& 1)), .unset, .unset, .unset] [])) _
        refine XS.aload X85.here hx rfl (hb hby at_94) rfl rfl ?_
        show Steps p.tables e below (T85.setTop (mkF m 96 #[.val (.int p0), .val (.int p1), .val (.int p2), .val (.int p3), .val (.int p4), .val (.int p5), .val (.int (1 : Int32)), .val (.int (0 : Int32)), .val (.int ac), .val (.ref cd), .val (.int (((0 : Int32) &&& 1) &&& 1)), .unset, .unset, .unset] [(.ref cd)])) _
        refine XS.iconst X85.here hx rfl (hb hby at_96) ?_
        show Steps p.tables e below (T85.setTop (mkF m 97 #[.val (.int p0), .val (.int p1), .val (.int p2), .val (.int p3), .val (.int p4), .val (.int p5), .val (.int (1 : Int32)), .val (.int (0 : Int32)), .val (.int ac), .val (.ref cd), .val (.int (((0 : Int32) &&& 1) &&& 1)), .unset, .unset, .unset] [(.int (1 : Int32)), (.ref cd)])) _
        refine st86.trans ?_
        show Steps p.tables e below (T86.setTop (mkF m 100 #[.val (.int p0), .val (.int p1), .val (.int p2), .val (.int p3), .val (.int p4), .val (.int p5), .val (.int (1 : Int32)), .val (.int (0 : Int32)), .val (.int ac), .val (.ref cd), .val (.int (((0 : Int32) &&& 1) &&& 1)), .unset, .unset, .unset] [(.int (((1 : Int32) &&& 1) &&& 1))])) _
        refine XS.istore X86.here hx rfl (hb hby at_100) rfl (l' := #[.val (.int p0), .val (.int p1), .val (.int p2), .val (.int p3), .val (.int p4), .val (.int p5), .val (.int (1 : Int32)), .val (.int (0 : Int32)), .val (.int ac), .val (.ref cd), .val (.int (((0 : Int32) &&& 1) &&& 1)), .val (.int (((1 : Int32) &&& 1) &&& 1)), .unset, .unset]) rfl ?_
        show Steps p.tables e below (T86.setTop (mkF m 102 #[.val (.int p0), .val (.int p1), .val (.int p2), .val (.int p3), .val (.int p4), .val (.int p5), .val (.int (1 : Int32)), .val (.int (0 : Int32)), .val (.int ac), .val (.ref cd), .val (.int (((0 : Int32) &&& 1) &&& 1)), .val (.int (((1 : Int32) &&& 1) &&& 1)), .unset, .unset] [])) _
        refine XS.iload X86.here hx rfl (hb hby at_102) rfl ?_
        show Steps p.tables e below (T86.setTop (mkF m 104 #[.val (.int p0), .val (.int p1), .val (.int p2), .val (.int p3), .val (.int p4), .val (.int p5), .val (.int (1 : Int32)), .val (.int (0 : Int32)), .val (.int ac), .val (.ref cd), .val (.int (((0 : Int32) &&& 1) &&& 1)), .val (.int (((1 : Int32) &&& 1) &&& 1)), .unset, .unset] [(.int (1 : Int32))])) _
        refine XS.ifNo X86.here hx rfl (hb hby at_104) rfl ((if0 _ _).trans (feq (by decide : ¬ ((1 : Int32) = (0 : Int32)))).1) ?_
        show Steps p.tables e below (T86.setTop (mkF m 107 #[.val (.int p0), .val (.int p1), .val (.int p2), .val (.int p3), .val (.int p4), .val (.int p5), .val (.int (1 : Int32)), .val (.int (0 : Int32)), .val (.int ac), .val (.ref cd), .val (.int (((0 : Int32) &&& 1) &&& 1)), .val (.int (((1 : Int32) &&& 1) &&& 1)), .unset, .unset] [])) _
        refine XS.iload X86.here hx rfl (hb hby at_107) rfl ?_
        show Steps p.tables e below (T86.setTop (mkF m 109 #[.val (.int p0), .val (.int p1), .val (.int p2), .val (.int p3), .val (.int p4), .val (.int p5), .val (.int (1 : Int32)), .val (.int (0 : Int32)), .val (.int ac), .val (.ref cd), .val (.int (((0 : Int32) &&& 1) &&& 1)), .val (.int (((1 : Int32) &&& 1) &&& 1)), .unset, .unset] [(.int (0 : Int32))])) _
        refine XS.ifYes X86.here hx rfl (pc0 := 109) (pc' := 116) rfl (hb hby at_109) rfl ((if0 _ _).trans (teq (by decide : (0 : Int32) = (0 : Int32))).1) (by decide) (by decide) ?_
        show Steps p.tables e below (T86.setTop (mkF m 116 #[.val (.int p0), .val (.int p1), .val (.int p2), .val (.int p3), .val (.int p4), .val (.int p5), .val (.int (1 : Int32)), .val (.int (0 : Int32)), .val (.int ac), .val (.ref cd), .val (.int (((0 : Int32) &&& 1) &&& 1)), .val (.int (((1 : Int32) &&& 1) &&& 1)), .unset, .unset] [])) _
        refine XS.iconst X86.here hx rfl (hb hby at_116) ?_
        show Steps p.tables e below (T86.setTop (mkF m 117 #[.val (.int p0), .val (.int p1), .val (.int p2), .val (.int p3), .val (.int p4), .val (.int p5), .val (.int (1 : Int32)), .val (.int (0 : Int32)), .val (.int ac), .val (.ref cd), .val (.int (((0 : Int32) &&& 1) &&& 1)), .val (.int (((1 : Int32) &&& 1) &&& 1)), .unset, .unset] [(.int (0 : Int32))])) _
        refine XS.istore X86.here hx rfl (hb hby at_117) rfl (l' := #[.val (.int p0), .val (.int p1), .val (.int p2), .val (.int p3), .val (.int p4), .val (.int p5), .val (.int (1 : Int32)), .val (.int (0 : Int32)), .val (.int ac), .val (.ref cd), .val (.int (((0 : Int32) &&& 1) &&& 1)), .val (.int (((1 : Int32) &&& 1) &&& 1)), .val (.int (0 : Int32)), .unset]) rfl ?_
        show Steps p.tables e below (T86.setTop (mkF m 119 #[.val (.int p0), .val (.int p1), .val (.int p2), .val (.int p3), .val (.int p4), .val (.int p5), .val (.int (1 : Int32)), .val (.int (0 : Int32)), .val (.int ac), .val (.ref cd), .val (.int (((0 : Int32) &&& 1) &&& 1)), .val (.int (((1 : Int32) &&& 1) &&& 1)), .val (.int (0 : Int32)), .unset] [])) _
        refine XS.iload X86.here hx rfl (hb hby at_119) rfl ?_
        show Steps p.tables e below (T86.setTop (mkF m 121 #[.val (.int p0), .val (.int p1), .val (.int p2), .val (.int p3), .val (.int p4), .val (.int p5), .val (.int (1 : Int32)), .val (.int (0 : Int32)), .val (.int ac), .val (.ref cd), .val (.int (((0 : Int32) &&& 1) &&& 1)), .val (.int (((1 : Int32) &&& 1) &&& 1)), .val (.int (0 : Int32)), .unset] [(.int (1 : Int32))])) _
        refine XS.iconst X86.here hx rfl (hb hby at_121) ?_
        show Steps p.tables e below (T86.setTop (mkF m 122 #[.val (.int p0), .val (.int p1), .val (.int p2), .val (.int p3), .val (.int p4), .val (.int p5), .val (.int (1 : Int32)), .val (.int (0 : Int32)), .val (.int ac), .val (.ref cd), .val (.int (((0 : Int32) &&& 1) &&& 1)), .val (.int (((1 : Int32) &&& 1) &&& 1)), .val (.int (0 : Int32)), .unset] [(.int (1 : Int32)), (.int (1 : Int32))])) _
        refine XS.icmpYes X86.here hx rfl (pc0 := 122) (pc' := 130) rfl (hb hby at_122) rfl (teq (by decide : (1 : Int32) = (1 : Int32))).1 (by decide) (by decide) ?_
        show Steps p.tables e below (T86.setTop (mkF m 130 #[.val (.int p0), .val (.int p1), .val (.int p2), .val (.int p3), .val (.int p4), .val (.int p5), .val (.int (1 : Int32)), .val (.int (0 : Int32)), .val (.int ac), .val (.ref cd), .val (.int (((0 : Int32) &&& 1) &&& 1)), .val (.int (((1 : Int32) &&& 1) &&& 1)), .val (.int (0 : Int32)), .unset] [])) _
        refine XS.iconst X86.here hx rfl (hb hby at_130) ?_
        show Steps p.tables e below (T86.setTop (mkF m 131 #[.val (.int p0), .val (.int p1), .val (.int p2), .val (.int p3), .val (.int p4), .val (.int p5), .val (.int (1 : Int32)), .val (.int (0 : Int32)), .val (.int ac), .val (.ref cd), .val (.int (((0 : Int32) &&& 1) &&& 1)), .val (.int (((1 : Int32) &&& 1) &&& 1)), .val (.int (0 : Int32)), .unset] [(.int (1 : Int32))])) _
        refine XS.goto X86.here hx rfl (pc0 := 131) (pc' := 135) rfl (hb hby at_131) (by decide) (by decide) ?_
        show Steps p.tables e below (T86.setTop (mkF m 135 #[.val (.int p0), .val (.int p1), .val (.int p2), .val (.int p3), .val (.int p4), .val (.int p5), .val (.int (1 : Int32)), .val (.int (0 : Int32)), .val (.int ac), .val (.ref cd), .val (.int (((0 : Int32) &&& 1) &&& 1)), .val (.int (((1 : Int32) &&& 1) &&& 1)), .val (.int (0 : Int32)), .unset] [(.int (1 : Int32))])) _
        refine XS.istore X86.here hx rfl (hb hby at_135) rfl (l' := #[.val (.int p0), .val (.int p1), .val (.int p2), .val (.int p3), .val (.int p4), .val (.int p5), .val (.int (1 : Int32)), .val (.int (0 : Int32)), .val (.int ac), .val (.ref cd), .val (.int (((0 : Int32) &&& 1) &&& 1)), .val (.int (((1 : Int32) &&& 1) &&& 1)), .val (.int (0 : Int32)), .val (.int (1 : Int32))]) rfl ?_
        show Steps p.tables e below (T86.setTop (mkF m 137 #[.val (.int p0), .val (.int p1), .val (.int p2), .val (.int p3), .val (.int p4), .val (.int p5), .val (.int (1 : Int32)), .val (.int (0 : Int32)), .val (.int ac), .val (.ref cd), .val (.int (((0 : Int32) &&& 1) &&& 1)), .val (.int (((1 : Int32) &&& 1) &&& 1)), .val (.int (0 : Int32)), .val (.int (1 : Int32))] [])) _
        refine XS.iload X86.here hx rfl (hb hby at_137) rfl ?_
        show Steps p.tables e below (T86.setTop (mkF m 139 #[.val (.int p0), .val (.int p1), .val (.int p2), .val (.int p3), .val (.int p4), .val (.int p5), .val (.int (1 : Int32)), .val (.int (0 : Int32)), .val (.int ac), .val (.ref cd), .val (.int (((0 : Int32) &&& 1) &&& 1)), .val (.int (((1 : Int32) &&& 1) &&& 1)), .val (.int (0 : Int32)), .val (.int (1 : Int32))] [(.int (((0 : Int32) &&& 1) &&& 1))])) _
        refine XS.iload X86.here hx rfl (hb hby at_139) rfl ?_
        show Steps p.tables e below (T86.setTop (mkF m 141 #[.val (.int p0), .val (.int p1), .val (.int p2), .val (.int p3), .val (.int p4), .val (.int p5), .val (.int (1 : Int32)), .val (.int (0 : Int32)), .val (.int ac), .val (.ref cd), .val (.int (((0 : Int32) &&& 1) &&& 1)), .val (.int (((1 : Int32) &&& 1) &&& 1)), .val (.int (0 : Int32)), .val (.int (1 : Int32))] [(.int (0 : Int32)), (.int (((0 : Int32) &&& 1) &&& 1))])) _
        refine XS.icmpNo X86.here hx rfl (hb hby at_141) rfl (teq (by decide : (((0 : Int32) &&& 1) &&& 1) = (0 : Int32))).2 ?_
        show Steps p.tables e below (T86.setTop (mkF m 144 #[.val (.int p0), .val (.int p1), .val (.int p2), .val (.int p3), .val (.int p4), .val (.int p5), .val (.int (1 : Int32)), .val (.int (0 : Int32)), .val (.int ac), .val (.ref cd), .val (.int (((0 : Int32) &&& 1) &&& 1)), .val (.int (((1 : Int32) &&& 1) &&& 1)), .val (.int (0 : Int32)), .val (.int (1 : Int32))] [])) _
        refine XS.iload X86.here hx rfl (hb hby at_144) rfl ?_
        show Steps p.tables e below (T86.setTop (mkF m 146 #[.val (.int p0), .val (.int p1), .val (.int p2), .val (.int p3), .val (.int p4), .val (.int p5), .val (.int (1 : Int32)), .val (.int (0 : Int32)), .val (.int ac), .val (.ref cd), .val (.int (((0 : Int32) &&& 1) &&& 1)), .val (.int (((1 : Int32) &&& 1) &&& 1)), .val (.int (0 : Int32)), .val (.int (1 : Int32))] [(.int (((1 : Int32) &&& 1) &&& 1))])) _
        refine XS.iload X86.here hx rfl (hb hby at_146) rfl ?_
        show Steps p.tables e below (T86.setTop (mkF m 148 #[.val (.int p0), .val (.int p1), .val (.int p2), .val (.int p3), .val (.int p4), .val (.int p5), .val (.int (1 : Int32)), .val (.int (0 : Int32)), .val (.int ac), .val (.ref cd), .val (.int (((0 : Int32) &&& 1) &&& 1)), .val (.int (((1 : Int32) &&& 1) &&& 1)), .val (.int (0 : Int32)), .val (.int (1 : Int32))] [(.int (1 : Int32)), (.int (((1 : Int32) &&& 1) &&& 1))])) _
        refine XS.icmpNo X86.here hx rfl (hb hby at_148) rfl (teq (by decide : (((1 : Int32) &&& 1) &&& 1) = (1 : Int32))).2 ?_
        show Steps p.tables e below (T86.setTop (mkF m 151 #[.val (.int p0), .val (.int p1), .val (.int p2), .val (.int p3), .val (.int p4), .val (.int p5), .val (.int (1 : Int32)), .val (.int (0 : Int32)), .val (.int ac), .val (.ref cd), .val (.int (((0 : Int32) &&& 1) &&& 1)), .val (.int (((1 : Int32) &&& 1) &&& 1)), .val (.int (0 : Int32)), .val (.int (1 : Int32))] [])) _
        refine XS.aload X86.here hx rfl (hb hby at_151) rfl rfl ?_
        show Steps p.tables e below (T86.setTop (mkF m 153 #[.val (.int p0), .val (.int p1), .val (.int p2), .val (.int p3), .val (.int p4), .val (.int p5), .val (.int (1 : Int32)), .val (.int (0 : Int32)), .val (.int ac), .val (.ref cd), .val (.int (((0 : Int32) &&& 1) &&& 1)), .val (.int (((1 : Int32) &&& 1) &&& 1)), .val (.int (0 : Int32)), .val (.int (1 : Int32))] [(.ref cd)])) _
        refine st87.trans ?_
        show Steps p.tables e below (T87.setTop (mkF m 156 #[.val (.int p0), .val (.int p1), .val (.int p2), .val (.int p3), .val (.int p4), .val (.int p5), .val (.int (1 : Int32)), .val (.int (0 : Int32)), .val (.int ac), .val (.ref cd), .val (.int (((0 : Int32) &&& 1) &&& 1)), .val (.int (((1 : Int32) &&& 1) &&& 1)), .val (.int (0 : Int32)), .val (.int (1 : Int32))] [(.int (if ((2 : Int32) - (1 : Int32)) = 0 then 1 else 0 : Int32))])) _
        refine XS.iload X87.here hx rfl (hb hby at_156) rfl ?_
        show Steps p.tables e below (T87.setTop (mkF m 158 #[.val (.int p0), .val (.int p1), .val (.int p2), .val (.int p3), .val (.int p4), .val (.int p5), .val (.int (1 : Int32)), .val (.int (0 : Int32)), .val (.int ac), .val (.ref cd), .val (.int (((0 : Int32) &&& 1) &&& 1)), .val (.int (((1 : Int32) &&& 1) &&& 1)), .val (.int (0 : Int32)), .val (.int (1 : Int32))] [(.int (0 : Int32)), (.int (if ((2 : Int32) - (1 : Int32)) = 0 then 1 else 0 : Int32))])) _
        refine XS.icmpNo X87.here hx rfl (hb hby at_158) rfl (teq (by decide : (if ((2 : Int32) - (1 : Int32)) = 0 then 1 else 0 : Int32) = (0 : Int32))).2 ?_
        show Steps p.tables e below (T87.setTop (mkF m 161 #[.val (.int p0), .val (.int p1), .val (.int p2), .val (.int p3), .val (.int p4), .val (.int p5), .val (.int (1 : Int32)), .val (.int (0 : Int32)), .val (.int ac), .val (.ref cd), .val (.int (((0 : Int32) &&& 1) &&& 1)), .val (.int (((1 : Int32) &&& 1) &&& 1)), .val (.int (0 : Int32)), .val (.int (1 : Int32))] [])) _
        refine XS.aload X87.here hx rfl (hb hby at_161) rfl rfl ?_
        show Steps p.tables e below (T87.setTop (mkF m 163 #[.val (.int p0), .val (.int p1), .val (.int p2), .val (.int p3), .val (.int p4), .val (.int p5), .val (.int (1 : Int32)), .val (.int (0 : Int32)), .val (.int ac), .val (.ref cd), .val (.int (((0 : Int32) &&& 1) &&& 1)), .val (.int (((1 : Int32) &&& 1) &&& 1)), .val (.int (0 : Int32)), .val (.int (1 : Int32))] [(.ref cd)])) _
        refine st88.trans ?_
        show Steps p.tables e below (T88.setTop (mkF m 166 #[.val (.int p0), .val (.int p1), .val (.int p2), .val (.int p3), .val (.int p4), .val (.int p5), .val (.int (1 : Int32)), .val (.int (0 : Int32)), .val (.int ac), .val (.ref cd), .val (.int (((0 : Int32) &&& 1) &&& 1)), .val (.int (((1 : Int32) &&& 1) &&& 1)), .val (.int (0 : Int32)), .val (.int (1 : Int32))] [(.int (2 : Int32))])) _
        refine XS.iconst X88.here hx rfl (hb hby at_166) ?_
        show Steps p.tables e below (T88.setTop (mkF m 167 #[.val (.int p0), .val (.int p1), .val (.int p2), .val (.int p3), .val (.int p4), .val (.int p5), .val (.int (1 : Int32)), .val (.int (0 : Int32)), .val (.int ac), .val (.ref cd), .val (.int (((0 : Int32) &&& 1) &&& 1)), .val (.int (((1 : Int32) &&& 1) &&& 1)), .val (.int (0 : Int32)), .val (.int (1 : Int32))] [(.int (2 : Int32)), (.int (2 : Int32))])) _
        refine XS.icmpNo X88.here hx rfl (hb hby at_167) rfl (teq (by decide : (2 : Int32) = (2 : Int32))).2 ?_
        show Steps p.tables e below (T88.setTop (mkF m 170 #[.val (.int p0), .val (.int p1), .val (.int p2), .val (.int p3), .val (.int p4), .val (.int p5), .val (.int (1 : Int32)), .val (.int (0 : Int32)), .val (.int ac), .val (.ref cd), .val (.int (((0 : Int32) &&& 1) &&& 1)), .val (.int (((1 : Int32) &&& 1) &&& 1)), .val (.int (0 : Int32)), .val (.int (1 : Int32))] [])) _
        refine XS.iconst X88.here hx rfl (hb hby at_170) ?_
        show Steps p.tables e below (T88.setTop (mkF m 171 #[.val (.int p0), .val (.int p1), .val (.int p2), .val (.int p3), .val (.int p4), .val (.int p5), .val (.int (1 : Int32)), .val (.int (0 : Int32)), .val (.int ac), .val (.ref cd), .val (.int (((0 : Int32) &&& 1) &&& 1)), .val (.int (((1 : Int32) &&& 1) &&& 1)), .val (.int (0 : Int32)), .val (.int (1 : Int32))] [(.int (1 : Int32))])) _
        refine XS.goto X88.here hx rfl (pc0 := 171) (pc' := 175) rfl (hb hby at_171) (by decide) (by decide) ?_
        show Steps p.tables e below (T88.setTop (mkF m 175 #[.val (.int p0), .val (.int p1), .val (.int p2), .val (.int p3), .val (.int p4), .val (.int p5), .val (.int (1 : Int32)), .val (.int (0 : Int32)), .val (.int ac), .val (.ref cd), .val (.int (((0 : Int32) &&& 1) &&& 1)), .val (.int (((1 : Int32) &&& 1) &&& 1)), .val (.int (0 : Int32)), .val (.int (1 : Int32))] [(.int (1 : Int32))])) _
        exact k_)
    obtain ⟨fs, hr, hrun, hended, hW, hsame⟩ := X88.leave (v := some (.int (1 : Int32))) (fun h => by rw [Bd.returns] at h; cases h)
    refine ⟨_, _, pre89 _ ?_, hrun, hended, _, _, rfl, ?_, ⟨_, rfl⟩, hW, hsame.mono (by decide) (by decide)⟩
    · exact retN X88 hx (t := .boolean) Bd.returns (by simp) (hb hby at_175) hr
    · show Q0 Z p0 p1 p2 p3 p4 p5 de h0 n0 _ T88.heap _
      rw [e88]
      exact ⟨rfl, N88⟩
  ·
    obtain ⟨cq90, kq90, q90a, q90b, q90c⟩ := isOf hZ rfl f65
    obtain ⟨_, _, ⟨T90, L90, k90, n90⟩, -, X90, ⟨Lc90, hQ90, l90, y90, z90⟩, st90⟩ := X64.virtualBack hx (y := (⟨"com/example/traceloom/traceloom/discovery/Candidates", "take", "(I)V"⟩ : MethodName)) (z := (⟨"com/example/traceloom/traceloom/discovery/Candidates", "take", "(I)V"⟩ : MethodName)) hown (mvT hZ (hw _ (List.mem_of_getElem? (i := 84) rfl))) (mvT hZ (hw _ (List.mem_of_getElem? (i := 85) rfl))) (notFace_of_selects (args := #[]) (mvT hZ (hw _ (List.mem_of_getElem? (i := 87) rfl)))) (mvT hZ (hw _ (List.mem_of_getElem? (i := 87) rfl))) (mvT hZ (hw _ (List.mem_of_getElem? (i := 86) rfl))) (by decide) (backOf (W := 0) (rmTK l Z a0 hw [] cd ((1 : Int32)) 1 (2 : Int32) (2 : Int32) tk (oUpd (oUpd (fun _ => .int (0 : Int32)) 0 (.int ((0 : Int32) &&& 1))) 1 (.int ((0 : Int32) &&& 1))) T64.heap n0 Z64 f65 Fa64_size Fa64_left Fa64_taken Aa64_tk gg10 ga_tk nq_a1_tk rfl (by decide)) hZ (hw _ (List.mem_of_getElem? (i := 88) rfl)) (hw _ (List.mem_of_getElem? (i := 2) rfl)) (by decide) (by decide)) q90a q90c (g := (mkF m 69 #[.val (.int p0), .val (.int p1), .val (.int p2), .val (.int p3), .val (.int p4), .val (.int p5), .val (.int (1 : Int32)), .val (.int (1 : Int32)), .val (.int ac), .val (.ref cd), .unset, .unset, .unset, .unset] [(.int (1 : Int32)), (.ref cd)])) rfl (by rw [hml]; rfl) (Steps.refl _) (argsL := [(.int (1 : Int32))]) (rest := []) (lenOf pd0_3 rfl) rfl (by show 2 * 0 + _ ≤ _; exact Nat.le_of_eq rfl) (hb hby at_69) (fun _ _ => ⟨rfl, rfl, (by decide : 15 + 0 ≤ _), (by decide : 89 + 0 ≤ _)⟩)
    dsimp only [Pt.U, Pt.locs, Pt.cells, Pt.slots] at X90 l90 y90 z90 st90 hQ90
    subst l90 y90 z90
    obtain ⟨rfl, N90q, K90, Ft90_s, Ft90_l, Ft90_t, At90⟩ := hQ90
    have N90 := Fr.app N64 N90q
    have f91 := f65.keep K90
    have Z90 : n0 ≤ T90.heap.size := Nat.le_trans Z64 K90.1
    obtain ⟨cq92, kq92, q92a, q92b, q92c⟩ := isOf hZ rfl f91
    obtain ⟨_, _, ⟨T92, L92, k92, n92⟩, -, X92, ⟨Lc92, hQ92, l92, y92, z92⟩, st92⟩ := X90.virtualBack hx (y := (⟨"com/example/traceloom/traceloom/discovery/Candidates", "take", "(I)V"⟩ : MethodName)) (z := (⟨"com/example/traceloom/traceloom/discovery/Candidates", "take", "(I)V"⟩ : MethodName)) hown (mvT hZ (hw _ (List.mem_of_getElem? (i := 84) rfl))) (mvT hZ (hw _ (List.mem_of_getElem? (i := 85) rfl))) (notFace_of_selects (args := #[]) (mvT hZ (hw _ (List.mem_of_getElem? (i := 87) rfl)))) (mvT hZ (hw _ (List.mem_of_getElem? (i := 87) rfl))) (mvT hZ (hw _ (List.mem_of_getElem? (i := 86) rfl))) (by decide) (backOf (W := 0) (rmTK l Z a0 hw [] cd (((1 : Int32) - (1 : Int32))) 0 (2 : Int32) ((2 : Int32) - (1 : Int32)) tk (oUpd (oUpd (oUpd (fun _ => .int (0 : Int32)) 0 (.int ((0 : Int32) &&& 1))) 1 (.int ((0 : Int32) &&& 1))) 1 (.int ((1 : Int32) &&& 1))) T90.heap n0 Z90 f91 Ft90_s Ft90_l Ft90_t At90 gg10 ga_tk nq_a1_tk (by decide) (by decide)) hZ (hw _ (List.mem_of_getElem? (i := 88) rfl)) (hw _ (List.mem_of_getElem? (i := 2) rfl)) (by decide) (by decide)) q92a q92c (g := (mkF m 83 #[.val (.int p0), .val (.int p1), .val (.int p2), .val (.int p3), .val (.int p4), .val (.int p5), .val (.int (1 : Int32)), .val (.int (1 : Int32)), .val (.int ac), .val (.ref cd), .unset, .unset, .unset, .unset] [(.int ((1 : Int32) - (1 : Int32))), (.ref cd)])) rfl (by rw [hml]; rfl) (Steps.refl _) (argsL := [(.int ((1 : Int32) - (1 : Int32)))]) (rest := []) (lenOf pd0_3 rfl) rfl (by show 2 * 0 + _ ≤ _; exact Nat.le_of_eq rfl) (hb hby at_83) (fun _ _ => ⟨rfl, rfl, (by decide : 15 + 0 ≤ _), (by decide : 89 + 0 ≤ _)⟩)
    dsimp only [Pt.U, Pt.locs, Pt.cells, Pt.slots] at X92 l92 y92 z92 st92 hQ92
    subst l92 y92 z92
    obtain ⟨rfl, N92q, K92, Ft92_s, Ft92_l, Ft92_t, At92⟩ := hQ92
    have N92 := Fr.app N90 N92q
    have f93 := f91.keep K92
    have Z92 : n0 ≤ T92.heap.size := Nat.le_trans Z90 K92.1
    obtain ⟨cq94, kq94, q94a, q94b, q94c⟩ := isOf hZ rfl f93
    obtain ⟨_, _, ⟨T94, L94, k94, n94⟩, -, X94, ⟨Lc94, hQ94, l94, y94, z94⟩, st94⟩ := X92.virtualBack hx (y := (⟨"com/example/traceloom/traceloom/discovery/Candidates", "taken", "(I)Z"⟩ : MethodName)) (z := (⟨"com/example/traceloom/traceloom/discovery/Candidates", "taken", "(I)Z"⟩ : MethodName)) hown (mvT hZ (hw _ (List.mem_of_getElem? (i := 89) rfl))) (mvT hZ (hw _ (List.mem_of_getElem? (i := 90) rfl))) (notFace_of_selects (args := #[]) (mvT hZ (hw _ (List.mem_of_getElem? (i := 92) rfl)))) (mvT hZ (hw _ (List.mem_of_getElem? (i := 92) rfl))) (mvT hZ (hw _ (List.mem_of_getElem? (i := 91) rfl))) (by decide) (backOf (W := 0) (rmTA l Z a0 hw [] cd ((0 : Int32)) 0 (2 : Int32) (((2 : Int32) - (1 : Int32)) - (1 : Int32)) tk (oUpd (oUpd (oUpd (oUpd (fun _ => .int (0 : Int32)) 0 (.int ((0 : Int32) &&& 1))) 1 (.int ((0 : Int32) &&& 1))) 1 (.int ((1 : Int32) &&& 1))) 0 (.int ((1 : Int32) &&& 1))) ((1 : Int32) &&& 1) T92.heap n0 Z92 f93 Ft92_s Ft92_l Ft92_t At92 gg10 ga_tk nq_a1_tk rfl (by decide) rfl) hZ (hw _ (List.mem_of_getElem? (i := 93) rfl)) (hw _ (List.mem_of_getElem? (i := 2) rfl)) (by decide) (by decide)) q94a q94c (g := (mkF m 89 #[.val (.int p0), .val (.int p1), .val (.int p2), .val (.int p3), .val (.int p4), .val (.int p5), .val (.int (1 : Int32)), .val (.int (1 : Int32)), .val (.int ac), .val (.ref cd), .unset, .unset, .unset, .unset] [(.int (0 : Int32)), (.ref cd)])) rfl (by rw [hml]; rfl) (Steps.refl _) (argsL := [(.int (0 : Int32))]) (rest := []) (lenOf pd0_4 rfl) rfl (by show 2 * 0 + _ ≤ _; exact Nat.le_of_eq rfl) (hb hby at_89) (fun _ _ => ⟨rfl, rfl, (by decide : 15 + 0 ≤ _), (by decide : 89 + 0 ≤ _)⟩)
    dsimp only [Pt.U, Pt.locs, Pt.cells, Pt.slots] at X94 l94 y94 z94 st94 hQ94
    subst l94 y94 z94
    obtain ⟨rfl, N94q, e94⟩ := hQ94
    have N94 := Fr.app N92 N94q
    obtain ⟨cq95, kq95, q95a, q95b, q95c⟩ := isOf hZ e94 f93
    obtain ⟨_, _, ⟨T95, L95, k95, n95⟩, -, X95, ⟨Lc95, hQ95, l95, y95, z95⟩, st95⟩ := X94.virtualBack hx (y := (⟨"com/example/traceloom/traceloom/discovery/Candidates", "taken", "(I)Z"⟩ : MethodName)) (z := (⟨"com/example/traceloom/traceloom/discovery/Candidates", "taken", "(I)Z"⟩ : MethodName)) hown (mvT hZ (hw _ (List.mem_of_getElem? (i := 89) rfl))) (mvT hZ (hw _ (List.mem_of_getElem? (i := 90) rfl))) (notFace_of_selects (args := #[]) (mvT hZ (hw _ (List.mem_of_getElem? (i := 92) rfl)))) (mvT hZ (hw _ (List.mem_of_getElem? (i := 92) rfl))) (mvT hZ (hw _ (List.mem_of_getElem? (i := 91) rfl))) (by decide) (backOf (W := 0) (rmTA l Z a0 hw [] cd ((1 : Int32)) 1 (2 : Int32) (((2 : Int32) - (1 : Int32)) - (1 : Int32)) tk (oUpd (oUpd (oUpd (oUpd (fun _ => .int (0 : Int32)) 0 (.int ((0 : Int32) &&& 1))) 1 (.int ((0 : Int32) &&& 1))) 1 (.int ((1 : Int32) &&& 1))) 0 (.int ((1 : Int32) &&& 1))) ((1 : Int32) &&& 1) T92.heap n0 Z92 f93 Ft92_s Ft92_l Ft92_t At92 gg10 ga_tk nq_a1_tk rfl (by decide) rfl) hZ (hw _ (List.mem_of_getElem? (i := 93) rfl)) (hw _ (List.mem_of_getElem? (i := 2) rfl)) (by decide) (by decide)) q95a q95c (g := (mkF m 97 #[.val (.int p0), .val (.int p1), .val (.int p2), .val (.int p3), .val (.int p4), .val (.int p5), .val (.int (1 : Int32)), .val (.int (1 : Int32)), .val (.int ac), .val (.ref cd), .val (.int (((1 : Int32) &&& 1) &&& 1)), .unset, .unset, .unset] [(.int (1 : Int32)), (.ref cd)])) rfl (by rw [hml]; rfl) (Steps.refl _) (argsL := [(.int (1 : Int32))]) (rest := []) (lenOf pd0_4 rfl) rfl (by show 2 * 0 + _ ≤ _; exact Nat.le_of_eq rfl) (hb hby at_97) (fun _ _ => ⟨rfl, e94, (by decide : 15 + 0 ≤ _), (by decide : 89 + 0 ≤ _)⟩)
    dsimp only [Pt.U, Pt.locs, Pt.cells, Pt.slots] at X95 l95 y95 z95 st95 hQ95
    subst l95 y95 z95
    obtain ⟨rfl, N95q, e95⟩ := hQ95
    have N95 := Fr.app N94 N95q
    obtain ⟨cq96, kq96, q96a, q96b, q96c⟩ := isOf hZ e95 f93
    obtain ⟨_, _, ⟨T96, L96, k96, n96⟩, -, X96, ⟨Lc96, hQ96, l96, y96, z96⟩, st96⟩ := X95.virtualBack hx (y := (⟨"com/example/traceloom/traceloom/discovery/Candidates", "isEmpty", "()Z"⟩ : MethodName)) (z := (⟨"com/example/traceloom/traceloom/discovery/Candidates", "isEmpty", "()Z"⟩ : MethodName)) hown (mvT hZ (hw _ (List.mem_of_getElem? (i := 94) rfl))) (mvT hZ (hw _ (List.mem_of_getElem? (i := 95) rfl))) (notFace_of_selects (args := #[]) (mvT hZ (hw _ (List.mem_of_getElem? (i := 97) rfl)))) (mvT hZ (hw _ (List.mem_of_getElem? (i := 97) rfl))) (mvT hZ (hw _ (List.mem_of_getElem? (i := 96) rfl))) (by decide) (backOf (W := 0) (rmIE l Z a0 hw [] cd ((((2 : Int32) - (1 : Int32)) - (1 : Int32))) T92.heap n0 Z92 Ft92_l) hZ (hw _ (List.mem_of_getElem? (i := 98) rfl)) (hw _ (List.mem_of_getElem? (i := 2) rfl)) (by decide) (by decide)) q96a q96c (g := (mkF m 153 #[.val (.int p0), .val (.int p1), .val (.int p2), .val (.int p3), .val (.int p4), .val (.int p5), .val (.int (1 : Int32)), .val (.int (1 : Int32)), .val (.int ac), .val (.ref cd), .val (.int (((1 : Int32) &&& 1) &&& 1)), .val (.int (((1 : Int32) &&& 1) &&& 1)), .val (.int (1 : Int32)), .val (.int (1 : Int32))] [(.ref cd)])) rfl (by rw [hml]; rfl) (Steps.refl _) (argsL := []) (rest := []) (lenOf pd0_5 rfl) rfl (by show 2 * 0 + _ ≤ _; exact Nat.le_of_eq rfl) (hb hby at_153) (fun _ _ => ⟨rfl, e95, (by decide : 15 + 0 ≤ _), (by decide : 89 + 0 ≤ _)⟩)
    dsimp only [Pt.U, Pt.locs, Pt.cells, Pt.slots] at X96 l96 y96 z96 st96 hQ96
    subst l96 y96 z96
    obtain ⟨rfl, N96q, e96⟩ := hQ96
    have N96 := Fr.app N95 N96q
    obtain ⟨cq97, kq97, q97a, q97b, q97c⟩ := isOf hZ e96 f93
    obtain ⟨_, _, ⟨T97, L97, k97, n97⟩, -, X97, ⟨Lc97, hQ97, l97, y97, z97⟩, st97⟩ := X96.virtualBack hx (y := (⟨"com/example/traceloom/traceloom/discovery/Candidates", "size", "()I"⟩ : MethodName)) (z := (⟨"com/example/traceloom/traceloom/discovery/Candidates", "size", "()I"⟩ : MethodName)) hown (mvT hZ (hw _ (List.mem_of_getElem? (i := 99) rfl))) (mvT hZ (hw _ (List.mem_of_getElem? (i := 100) rfl))) (notFace_of_selects (args := #[]) (mvT hZ (hw _ (List.mem_of_getElem? (i := 102) rfl)))) (mvT hZ (hw _ (List.mem_of_getElem? (i := 102) rfl))) (mvT hZ (hw _ (List.mem_of_getElem? (i := 101) rfl))) (by decide) (backOf (W := 0) (rmSZ l Z a0 hw [] cd ((2 : Int32)) T92.heap n0 Z92 Ft92_s) hZ (hw _ (List.mem_of_getElem? (i := 103) rfl)) (hw _ (List.mem_of_getElem? (i := 2) rfl)) (by decide) (by decide)) q97a q97c (g := (mkF m 163 #[.val (.int p0), .val (.int p1), .val (.int p2), .val (.int p3), .val (.int p4), .val (.int p5), .val (.int (1 : Int32)), .val (.int (1 : Int32)), .val (.int ac), .val (.ref cd), .val (.int (((1 : Int32) &&& 1) &&& 1)), .val (.int (((1 : Int32) &&& 1) &&& 1)), .val (.int (1 : Int32)), .val (.int (1 : Int32))] [(.ref cd)])) rfl (by rw [hml]; rfl) (Steps.refl _) (argsL := []) (rest := []) (lenOf pd0_6 rfl) rfl (by show 2 * 0 + _ ≤ _; exact Nat.le_of_eq rfl) (hb hby at_163) (fun _ _ => ⟨rfl, e96, (by decide : 15 + 0 ≤ _), (by decide : 89 + 0 ≤ _)⟩)
    dsimp only [Pt.U, Pt.locs, Pt.cells, Pt.slots] at X97 l97 y97 z97 st97 hQ97
    subst l97 y97 z97
    obtain ⟨rfl, N97q, e97⟩ := hQ97
    have N97 := Fr.app N96 N97q
    have pre98 : ∀ t, Steps p.tables e below (T97.setTop (mkF m 175 #[.val (.int p0), .val (.int p1), .val (.int p2), .val (.int p3), .val (.int p4), .val (.int p5), .val (.int (1 : Int32)), .val (.int (1 : Int32)), .val (.int ac), .val (.ref cd), .val (.int (((1 : Int32) &&& 1) &&& 1)), .val (.int (((1 : Int32) &&& 1) &&& 1)), .val (.int (1 : Int32)), .val (.int (1 : Int32))] [(.int (1 : Int32))])) t → Steps p.tables e below (s₁.setTop (entryFrame m #[(.int p0), (.int p1), (.int p2), (.int p3), (.int p4), (.int p5)] maxLocals)) t := fun t_ k_ => pre66 t_ (by
        refine XS.aload X64.here hx rfl (hb hby at_65) rfl rfl ?_
        show Steps p.tables e below (T64.setTop (mkF m 67 #[.val (.int p0), .val (.int p1), .val (.int p2), .val (.int p3), .val (.int p4), .val (.int p5), .val (.int (1 : Int32)), .val (.int (1 : Int32)), .val (.int ac), .val (.ref cd), .unset, .unset, .unset, .unset] [(.ref cd)])) _
        refine XS.iload X64.here hx rfl (hb hby at_67) rfl ?_
        show Steps p.tables e below (T64.setTop (mkF m 69 #[.val (.int p0), .val (.int p1), .val (.int p2), .val (.int p3), .val (.int p4), .val (.int p5), .val (.int (1 : Int32)), .val (.int (1 : Int32)), .val (.int ac), .val (.ref cd), .unset, .unset, .unset, .unset] [(.int (1 : Int32)), (.ref cd)])) _
        refine st90.trans ?_
        show Steps p.tables e below (T90.setTop (mkF m 72 #[.val (.int p0), .val (.int p1), .val (.int p2), .val (.int p3), .val (.int p4), .val (.int p5), .val (.int (1 : Int32)), .val (.int (1 : Int32)), .val (.int ac), .val (.ref cd), .unset, .unset, .unset, .unset] [])) _
        refine XS.iload X90.here hx rfl (hb hby at_72) rfl ?_
        show Steps p.tables e below (T90.setTop (mkF m 74 #[.val (.int p0), .val (.int p1), .val (.int p2), .val (.int p3), .val (.int p4), .val (.int p5), .val (.int (1 : Int32)), .val (.int (1 : Int32)), .val (.int ac), .val (.ref cd), .unset, .unset, .unset, .unset] [(.int (1 : Int32))])) _
        refine XS.ifNo X90.here hx rfl (hb hby at_74) rfl ((if0 _ _).trans (feq (by decide : ¬ ((1 : Int32) = (0 : Int32)))).1) ?_
        show Steps p.tables e below (T90.setTop (mkF m 77 #[.val (.int p0), .val (.int p1), .val (.int p2), .val (.int p3), .val (.int p4), .val (.int p5), .val (.int (1 : Int32)), .val (.int (1 : Int32)), .val (.int ac), .val (.ref cd), .unset, .unset, .unset, .unset] [])) _
        refine XS.aload X90.here hx rfl (hb hby at_77) rfl rfl ?_
        show Steps p.tables e below (T90.setTop (mkF m 79 #[.val (.int p0), .val (.int p1), .val (.int p2), .val (.int p3), .val (.int p4), .val (.int p5), .val (.int (1 : Int32)), .val (.int (1 : Int32)), .val (.int ac), .val (.ref cd), .unset, .unset, .unset, .unset] [(.ref cd)])) _
        refine XS.iconst X90.here hx rfl (hb hby at_79) ?_
        show Steps p.tables e below (T90.setTop (mkF m 80 #[.val (.int p0), .val (.int p1), .val (.int p2), .val (.int p3), .val (.int p4), .val (.int p5), .val (.int (1 : Int32)), .val (.int (1 : Int32)), .val (.int ac), .val (.ref cd), .unset, .unset, .unset, .unset] [(.int (1 : Int32)), (.ref cd)])) _
        refine XS.iload X90.here hx rfl (hb hby at_80) rfl ?_
        show Steps p.tables e below (T90.setTop (mkF m 82 #[.val (.int p0), .val (.int p1), .val (.int p2), .val (.int p3), .val (.int p4), .val (.int p5), .val (.int (1 : Int32)), .val (.int (1 : Int32)), .val (.int ac), .val (.ref cd), .unset, .unset, .unset, .unset] [(.int (1 : Int32)), (.int (1 : Int32)), (.ref cd)])) _
        refine XS.isub X90.here hx rfl (hb hby at_82) rfl ?_
        show Steps p.tables e below (T90.setTop (mkF m 83 #[.val (.int p0), .val (.int p1), .val (.int p2), .val (.int p3), .val (.int p4), .val (.int p5), .val (.int (1 : Int32)), .val (.int (1 : Int32)), .val (.int ac), .val (.ref cd), .unset, .unset, .unset, .unset] [(.int ((1 : Int32) - (1 : Int32))), (.ref cd)])) _
        refine st92.trans ?_
        show Steps p.tables e below (T92.setTop (mkF m 86 #[.val (.int p0), .val (.int p1), .val (.int p2), .val (.int p3), .val (.int p4), .val (.int p5), .val (.int (1 : Int32)), .val (.int (1 : Int32)), .val (.int ac), .val (.ref cd), .unset, .unset, .unset, .unset] [])) _
        refine XS.aload X92.here hx rfl (hb hby at_86) rfl rfl ?_
        show Steps p.tables e below (T92.setTop (mkF m 88 #[.val (.int p0), .val (.int p1), .val (.int p2), .val (.int p3), .val (.int p4), .val (.int p5), .val (.int (1 : Int32)), .val (.int (1 : Int32)), .val (.int ac), .val (.ref cd), .unset, .unset, .unset, .unset] [(.ref cd)])) _
        refine XS.iconst X92.here hx rfl (hb hby at_88) ?_
        show Steps p.tables e below (T92.setTop (mkF m 89 #[.val (.int p0), .val (.int p1), .val (.int p2), .val (.int p3), .val (.int p4), .val (.int p5), .val (.int (1 : Int32)), .val (.int (1 : Int32)), .val (.int ac), .val (.ref cd), .unset, .unset, .unset, .unset] [(.int (0 : Int32)), (.ref cd)])) _
        refine st94.trans ?_
        show Steps p.tables e below (T94.setTop (mkF m 92 #[.val (.int p0), .val (.int p1), .val (.int p2), .val (.int p3), .val (.int p4), .val (.int p5), .val (.int (1 : Int32)), .val (.int (1 : Int32)), .val (.int ac), .val (.ref cd), .unset, .unset, .unset, .unset] [(.int (((1 : Int32) &&& 1) &&& 1))])) _
        refine XS.istore X94.here hx rfl (hb hby at_92) rfl (l' := #[.val (.int p0), .val (.int p1), .val (.int p2), .val (.int p3), .val (.int p4), .val (.int p5), .val (.int (1 : Int32)), .val (.int (1 : Int32)), .val (.int ac), .val (.ref cd), .val (.int (((1 : Int32) &&& 1) &&& 1)), .unset, .unset, .unset]) rfl ?_
        show Steps p.tables e below (T94.setTop (mkF m 94 #[.val (.int p0), .val (.int p1), .val (.int p2), .val (.int p3), .val (.int p4), .val (.int p5), .val (.int (1 : Int32)), .val (.int (1 : Int32)), .val (.int ac), .val (.ref cd), .val (.int (((1 : Int32) &&& 1) &&& 1)), .unset, .unset, .unset] [])) _
        refine XS.aload X94.here hx rfl (hb hby at_94) rfl rfl ?_
        show Steps p.tables e below (T94.setTop (mkF m 96 #[.val (.int p0), .val (.int p1), .val (.int p2), .val (.int p3), .val (.int p4), .val (.int p5), .val (.int (1 : Int32)), .val (.int (1 : Int32)), .val (.int ac), .val (.ref cd), .val (.int (((1 : Int32) &&& 1) &&& 1)), .unset, .unset, .unset] [(.ref cd)])) _
        refine XS.iconst X94.here hx rfl (hb hby at_96) ?_
        show Steps p.tables e below (T94.setTop (mkF m 97 #[.val (.int p0), .val (.int p1), .val (.int p2), .val (.int p3), .val (.int p4), .val (.int p5), .val (.int (1 : Int32)), .val (.int (1 : Int32)), .val (.int ac), .val (.ref cd), .val (.int (((1 : Int32) &&& 1) &&& 1)), .unset, .unset, .unset] [(.int (1 : Int32)), (.ref cd)])) _
        refine st95.trans ?_
        show Steps p.tables e below (T95.setTop (mkF m 100 #[.val (.int p0), .val (.int p1), .val (.int p2), .val (.int p3), .val (.int p4), .val (.int p5), .val (.int (1 : Int32)), .val (.int (1 : Int32)), .val (.int ac), .val (.ref cd), .val (.int (((1 : Int32) &&& 1) &&& 1)), .unset, .unset, .unset] [(.int (((1 : Int32) &&& 1) &&& 1))])) _
        refine XS.istore X95.here hx rfl (hb hby at_100) rfl (l' := #[.val (.int p0), .val (.int p1), .val (.int p2), .val (.int p3), .val (.int p4), .val (.int p5), .val (.int (1 : Int32)), .val (.int (1 : Int32)), .val (.int ac), .val (.ref cd), .val (.int (((1 : Int32) &&& 1) &&& 1)), .val (.int (((1 : Int32) &&& 1) &&& 1)), .unset, .unset]) rfl ?_
        show Steps p.tables e below (T95.setTop (mkF m 102 #[.val (.int p0), .val (.int p1), .val (.int p2), .val (.int p3), .val (.int p4), .val (.int p5), .val (.int (1 : Int32)), .val (.int (1 : Int32)), .val (.int ac), .val (.ref cd), .val (.int (((1 : Int32) &&& 1) &&& 1)), .val (.int (((1 : Int32) &&& 1) &&& 1)), .unset, .unset] [])) _
        refine XS.iload X95.here hx rfl (hb hby at_102) rfl ?_
        show Steps p.tables e below (T95.setTop (mkF m 104 #[.val (.int p0), .val (.int p1), .val (.int p2), .val (.int p3), .val (.int p4), .val (.int p5), .val (.int (1 : Int32)), .val (.int (1 : Int32)), .val (.int ac), .val (.ref cd), .val (.int (((1 : Int32) &&& 1) &&& 1)), .val (.int (((1 : Int32) &&& 1) &&& 1)), .unset, .unset] [(.int (1 : Int32))])) _
        refine XS.ifNo X95.here hx rfl (hb hby at_104) rfl ((if0 _ _).trans (feq (by decide : ¬ ((1 : Int32) = (0 : Int32)))).1) ?_
        show Steps p.tables e below (T95.setTop (mkF m 107 #[.val (.int p0), .val (.int p1), .val (.int p2), .val (.int p3), .val (.int p4), .val (.int p5), .val (.int (1 : Int32)), .val (.int (1 : Int32)), .val (.int ac), .val (.ref cd), .val (.int (((1 : Int32) &&& 1) &&& 1)), .val (.int (((1 : Int32) &&& 1) &&& 1)), .unset, .unset] [])) _
        refine XS.iload X95.here hx rfl (hb hby at_107) rfl ?_
        show Steps p.tables e below (T95.setTop (mkF m 109 #[.val (.int p0), .val (.int p1), .val (.int p2), .val (.int p3), .val (.int p4), .val (.int p5), .val (.int (1 : Int32)), .val (.int (1 : Int32)), .val (.int ac), .val (.ref cd), .val (.int (((1 : Int32) &&& 1) &&& 1)), .val (.int (((1 : Int32) &&& 1) &&& 1)), .unset, .unset] [(.int (1 : Int32))])) _
        refine XS.ifNo X95.here hx rfl (hb hby at_109) rfl ((if0 _ _).trans (feq (by decide : ¬ ((1 : Int32) = (0 : Int32)))).1) ?_
        show Steps p.tables e below (T95.setTop (mkF m 112 #[.val (.int p0), .val (.int p1), .val (.int p2), .val (.int p3), .val (.int p4), .val (.int p5), .val (.int (1 : Int32)), .val (.int (1 : Int32)), .val (.int ac), .val (.ref cd), .val (.int (((1 : Int32) &&& 1) &&& 1)), .val (.int (((1 : Int32) &&& 1) &&& 1)), .unset, .unset] [])) _
        refine XS.iconst X95.here hx rfl (hb hby at_112) ?_
        show Steps p.tables e below (T95.setTop (mkF m 113 #[.val (.int p0), .val (.int p1), .val (.int p2), .val (.int p3), .val (.int p4), .val (.int p5), .val (.int (1 : Int32)), .val (.int (1 : Int32)), .val (.int ac), .val (.ref cd), .val (.int (((1 : Int32) &&& 1) &&& 1)), .val (.int (((1 : Int32) &&& 1) &&& 1)), .unset, .unset] [(.int (1 : Int32))])) _
        refine XS.goto X95.here hx rfl (pc0 := 113) (pc' := 117) rfl (hb hby at_113) (by decide) (by decide) ?_
        show Steps p.tables e below (T95.setTop (mkF m 117 #[.val (.int p0), .val (.int p1), .val (.int p2), .val (.int p3), .val (.int p4), .val (.int p5), .val (.int (1 : Int32)), .val (.int (1 : Int32)), .val (.int ac), .val (.ref cd), .val (.int (((1 : Int32) &&& 1) &&& 1)), .val (.int (((1 : Int32) &&& 1) &&& 1)), .unset, .unset] [(.int (1 : Int32))])) _
        refine XS.istore X95.here hx rfl (hb hby at_117) rfl (l' := #[.val (.int p0), .val (.int p1), .val (.int p2), .val (.int p3), .val (.int p4), .val (.int p5), .val (.int (1 : Int32)), .val (.int (1 : Int32)), .val (.int ac), .val (.ref cd), .val (.int (((1 : Int32) &&& 1) &&& 1)), .val (.int (((1 : Int32) &&& 1) &&& 1)), .val (.int (1 : Int32)), .unset]) rfl ?_
        show Steps p.tables e below (T95.setTop (mkF m 119 #[.val (.int p0), .val (.int p1), .val (.int p2), .val (.int p3), .val (.int p4), .val (.int p5), .val (.int (1 : Int32)), .val (.int (1 : Int32)), .val (.int ac), .val (.ref cd), .val (.int (((1 : Int32) &&& 1) &&& 1)), .val (.int (((1 : Int32) &&& 1) &&& 1)), .val (.int (1 : Int32)), .unset] [])) _
        refine XS.iload X95.here hx rfl (hb hby at_119) rfl ?_
        show Steps p.tables e below (T95.setTop (mkF m 121 #[.val (.int p0), .val (.int p1), .val (.int p2), .val (.int p3), .val (.int p4), .val (.int p5), .val (.int (1 : Int32)), .val (.int (1 : Int32)), .val (.int ac), .val (.ref cd), .val (.int (((1 : Int32) &&& 1) &&& 1)), .val (.int (((1 : Int32) &&& 1) &&& 1)), .val (.int (1 : Int32)), .unset] [(.int (1 : Int32))])) _
        refine XS.iconst X95.here hx rfl (hb hby at_121) ?_
        show Steps p.tables e below (T95.setTop (mkF m 122 #[.val (.int p0), .val (.int p1), .val (.int p2), .val (.int p3), .val (.int p4), .val (.int p5), .val (.int (1 : Int32)), .val (.int (1 : Int32)), .val (.int ac), .val (.ref cd), .val (.int (((1 : Int32) &&& 1) &&& 1)), .val (.int (((1 : Int32) &&& 1) &&& 1)), .val (.int (1 : Int32)), .unset] [(.int (1 : Int32)), (.int (1 : Int32))])) _
        refine XS.icmpYes X95.here hx rfl (pc0 := 122) (pc' := 130) rfl (hb hby at_122) rfl (teq (by decide : (1 : Int32) = (1 : Int32))).1 (by decide) (by decide) ?_
        show Steps p.tables e below (T95.setTop (mkF m 130 #[.val (.int p0), .val (.int p1), .val (.int p2), .val (.int p3), .val (.int p4), .val (.int p5), .val (.int (1 : Int32)), .val (.int (1 : Int32)), .val (.int ac), .val (.ref cd), .val (.int (((1 : Int32) &&& 1) &&& 1)), .val (.int (((1 : Int32) &&& 1) &&& 1)), .val (.int (1 : Int32)), .unset] [])) _
        refine XS.iconst X95.here hx rfl (hb hby at_130) ?_
        show Steps p.tables e below (T95.setTop (mkF m 131 #[.val (.int p0), .val (.int p1), .val (.int p2), .val (.int p3), .val (.int p4), .val (.int p5), .val (.int (1 : Int32)), .val (.int (1 : Int32)), .val (.int ac), .val (.ref cd), .val (.int (((1 : Int32) &&& 1) &&& 1)), .val (.int (((1 : Int32) &&& 1) &&& 1)), .val (.int (1 : Int32)), .unset] [(.int (1 : Int32))])) _
        refine XS.goto X95.here hx rfl (pc0 := 131) (pc' := 135) rfl (hb hby at_131) (by decide) (by decide) ?_
        show Steps p.tables e below (T95.setTop (mkF m 135 #[.val (.int p0), .val (.int p1), .val (.int p2), .val (.int p3), .val (.int p4), .val (.int p5), .val (.int (1 : Int32)), .val (.int (1 : Int32)), .val (.int ac), .val (.ref cd), .val (.int (((1 : Int32) &&& 1) &&& 1)), .val (.int (((1 : Int32) &&& 1) &&& 1)), .val (.int (1 : Int32)), .unset] [(.int (1 : Int32))])) _
        refine XS.istore X95.here hx rfl (hb hby at_135) rfl (l' := #[.val (.int p0), .val (.int p1), .val (.int p2), .val (.int p3), .val (.int p4), .val (.int p5), .val (.int (1 : Int32)), .val (.int (1 : Int32)), .val (.int ac), .val (.ref cd), .val (.int (((1 : Int32) &&& 1) &&& 1)), .val (.int (((1 : Int32) &&& 1) &&& 1)), .val (.int (1 : Int32)), .val (.int (1 : Int32))]) rfl ?_
        show Steps p.tables e below (T95.setTop (mkF m 137 #[.val (.int p0), .val (.int p1), .val (.int p2), .val (.int p3), .val (.int p4), .val (.int p5), .val (.int (1 : Int32)), .val (.int (1 : Int32)), .val (.int ac), .val (.ref cd), .val (.int (((1 : Int32) &&& 1) &&& 1)), .val (.int (((1 : Int32) &&& 1) &&& 1)), .val (.int (1 : Int32)), .val (.int (1 : Int32))] [])) _
        refine XS.iload X95.here hx rfl (hb hby at_137) rfl ?_
        show Steps p.tables e below (T95.setTop (mkF m 139 #[.val (.int p0), .val (.int p1), .val (.int p2), .val (.int p3), .val (.int p4), .val (.int p5), .val (.int (1 : Int32)), .val (.int (1 : Int32)), .val (.int ac), .val (.ref cd), .val (.int (((1 : Int32) &&& 1) &&& 1)), .val (.int (((1 : Int32) &&& 1) &&& 1)), .val (.int (1 : Int32)), .val (.int (1 : Int32))] [(.int (((1 : Int32) &&& 1) &&& 1))])) _
        refine XS.iload X95.here hx rfl (hb hby at_139) rfl ?_
        show Steps p.tables e below (T95.setTop (mkF m 141 #[.val (.int p0), .val (.int p1), .val (.int p2), .val (.int p3), .val (.int p4), .val (.int p5), .val (.int (1 : Int32)), .val (.int (1 : Int32)), .val (.int ac), .val (.ref cd), .val (.int (((1 : Int32) &&& 1) &&& 1)), .val (.int (((1 : Int32) &&& 1) &&& 1)), .val (.int (1 : Int32)), .val (.int (1 : Int32))] [(.int (1 : Int32)), (.int (((1 : Int32) &&& 1) &&& 1))])) _
        refine XS.icmpNo X95.here hx rfl (hb hby at_141) rfl (teq (by decide : (((1 : Int32) &&& 1) &&& 1) = (1 : Int32))).2 ?_
        show Steps p.tables e below (T95.setTop (mkF m 144 #[.val (.int p0), .val (.int p1), .val (.int p2), .val (.int p3), .val (.int p4), .val (.int p5), .val (.int (1 : Int32)), .val (.int (1 : Int32)), .val (.int ac), .val (.ref cd), .val (.int (((1 : Int32) &&& 1) &&& 1)), .val (.int (((1 : Int32) &&& 1) &&& 1)), .val (.int (1 : Int32)), .val (.int (1 : Int32))] [])) _
        refine XS.iload X95.here hx rfl (hb hby at_144) rfl ?_
        show Steps p.tables e below (T95.setTop (mkF m 146 #[.val (.int p0), .val (.int p1), .val (.int p2), .val (.int p3), .val (.int p4), .val (.int p5), .val (.int (1 : Int32)), .val (.int (1 : Int32)), .val (.int ac), .val (.ref cd), .val (.int (((1 : Int32) &&& 1) &&& 1)), .val (.int (((1 : Int32) &&& 1) &&& 1)), .val (.int (1 : Int32)), .val (.int (1 : Int32))] [(.int (((1 : Int32) &&& 1) &&& 1))])) _
        refine XS.iload X95.here hx rfl (hb hby at_146) rfl ?_
        show Steps p.tables e below (T95.setTop (mkF m 148 #[.val (.int p0), .val (.int p1), .val (.int p2), .val (.int p3), .val (.int p4), .val (.int p5), .val (.int (1 : Int32)), .val (.int (1 : Int32)), .val (.int ac), .val (.ref cd), .val (.int (((1 : Int32) &&& 1) &&& 1)), .val (.int (((1 : Int32) &&& 1) &&& 1)), .val (.int (1 : Int32)), .val (.int (1 : Int32))] [(.int (1 : Int32)), (.int (((1 : Int32) &&& 1) &&& 1))])) _
        refine XS.icmpNo X95.here hx rfl (hb hby at_148) rfl (teq (by decide : (((1 : Int32) &&& 1) &&& 1) = (1 : Int32))).2 ?_
        show Steps p.tables e below (T95.setTop (mkF m 151 #[.val (.int p0), .val (.int p1), .val (.int p2), .val (.int p3), .val (.int p4), .val (.int p5), .val (.int (1 : Int32)), .val (.int (1 : Int32)), .val (.int ac), .val (.ref cd), .val (.int (((1 : Int32) &&& 1) &&& 1)), .val (.int (((1 : Int32) &&& 1) &&& 1)), .val (.int (1 : Int32)), .val (.int (1 : Int32))] [])) _
        refine XS.aload X95.here hx rfl (hb hby at_151) rfl rfl ?_
        show Steps p.tables e below (T95.setTop (mkF m 153 #[.val (.int p0), .val (.int p1), .val (.int p2), .val (.int p3), .val (.int p4), .val (.int p5), .val (.int (1 : Int32)), .val (.int (1 : Int32)), .val (.int ac), .val (.ref cd), .val (.int (((1 : Int32) &&& 1) &&& 1)), .val (.int (((1 : Int32) &&& 1) &&& 1)), .val (.int (1 : Int32)), .val (.int (1 : Int32))] [(.ref cd)])) _
        refine st96.trans ?_
        show Steps p.tables e below (T96.setTop (mkF m 156 #[.val (.int p0), .val (.int p1), .val (.int p2), .val (.int p3), .val (.int p4), .val (.int p5), .val (.int (1 : Int32)), .val (.int (1 : Int32)), .val (.int ac), .val (.ref cd), .val (.int (((1 : Int32) &&& 1) &&& 1)), .val (.int (((1 : Int32) &&& 1) &&& 1)), .val (.int (1 : Int32)), .val (.int (1 : Int32))] [(.int (if (((2 : Int32) - (1 : Int32)) - (1 : Int32)) = 0 then 1 else 0 : Int32))])) _
        refine XS.iload X96.here hx rfl (hb hby at_156) rfl ?_
        show Steps p.tables e below (T96.setTop (mkF m 158 #[.val (.int p0), .val (.int p1), .val (.int p2), .val (.int p3), .val (.int p4), .val (.int p5), .val (.int (1 : Int32)), .val (.int (1 : Int32)), .val (.int ac), .val (.ref cd), .val (.int (((1 : Int32) &&& 1) &&& 1)), .val (.int (((1 : Int32) &&& 1) &&& 1)), .val (.int (1 : Int32)), .val (.int (1 : Int32))] [(.int (1 : Int32)), (.int (if (((2 : Int32) - (1 : Int32)) - (1 : Int32)) = 0 then 1 else 0 : Int32))])) _
        refine XS.icmpNo X96.here hx rfl (hb hby at_158) rfl (teq (by decide : (if (((2 : Int32) - (1 : Int32)) - (1 : Int32)) = 0 then 1 else 0 : Int32) = (1 : Int32))).2 ?_
        show Steps p.tables e below (T96.setTop (mkF m 161 #[.val (.int p0), .val (.int p1), .val (.int p2), .val (.int p3), .val (.int p4), .val (.int p5), .val (.int (1 : Int32)), .val (.int (1 : Int32)), .val (.int ac), .val (.ref cd), .val (.int (((1 : Int32) &&& 1) &&& 1)), .val (.int (((1 : Int32) &&& 1) &&& 1)), .val (.int (1 : Int32)), .val (.int (1 : Int32))] [])) _
        refine XS.aload X96.here hx rfl (hb hby at_161) rfl rfl ?_
        show Steps p.tables e below (T96.setTop (mkF m 163 #[.val (.int p0), .val (.int p1), .val (.int p2), .val (.int p3), .val (.int p4), .val (.int p5), .val (.int (1 : Int32)), .val (.int (1 : Int32)), .val (.int ac), .val (.ref cd), .val (.int (((1 : Int32) &&& 1) &&& 1)), .val (.int (((1 : Int32) &&& 1) &&& 1)), .val (.int (1 : Int32)), .val (.int (1 : Int32))] [(.ref cd)])) _
        refine st97.trans ?_
        show Steps p.tables e below (T97.setTop (mkF m 166 #[.val (.int p0), .val (.int p1), .val (.int p2), .val (.int p3), .val (.int p4), .val (.int p5), .val (.int (1 : Int32)), .val (.int (1 : Int32)), .val (.int ac), .val (.ref cd), .val (.int (((1 : Int32) &&& 1) &&& 1)), .val (.int (((1 : Int32) &&& 1) &&& 1)), .val (.int (1 : Int32)), .val (.int (1 : Int32))] [(.int (2 : Int32))])) _
        refine XS.iconst X97.here hx rfl (hb hby at_166) ?_
        show Steps p.tables e below (T97.setTop (mkF m 167 #[.val (.int p0), .val (.int p1), .val (.int p2), .val (.int p3), .val (.int p4), .val (.int p5), .val (.int (1 : Int32)), .val (.int (1 : Int32)), .val (.int ac), .val (.ref cd), .val (.int (((1 : Int32) &&& 1) &&& 1)), .val (.int (((1 : Int32) &&& 1) &&& 1)), .val (.int (1 : Int32)), .val (.int (1 : Int32))] [(.int (2 : Int32)), (.int (2 : Int32))])) _
        refine XS.icmpNo X97.here hx rfl (hb hby at_167) rfl (teq (by decide : (2 : Int32) = (2 : Int32))).2 ?_
        show Steps p.tables e below (T97.setTop (mkF m 170 #[.val (.int p0), .val (.int p1), .val (.int p2), .val (.int p3), .val (.int p4), .val (.int p5), .val (.int (1 : Int32)), .val (.int (1 : Int32)), .val (.int ac), .val (.ref cd), .val (.int (((1 : Int32) &&& 1) &&& 1)), .val (.int (((1 : Int32) &&& 1) &&& 1)), .val (.int (1 : Int32)), .val (.int (1 : Int32))] [])) _
        refine XS.iconst X97.here hx rfl (hb hby at_170) ?_
        show Steps p.tables e below (T97.setTop (mkF m 171 #[.val (.int p0), .val (.int p1), .val (.int p2), .val (.int p3), .val (.int p4), .val (.int p5), .val (.int (1 : Int32)), .val (.int (1 : Int32)), .val (.int ac), .val (.ref cd), .val (.int (((1 : Int32) &&& 1) &&& 1)), .val (.int (((1 : Int32) &&& 1) &&& 1)), .val (.int (1 : Int32)), .val (.int (1 : Int32))] [(.int (1 : Int32))])) _
        refine XS.goto X97.here hx rfl (pc0 := 171) (pc' := 175) rfl (hb hby at_171) (by decide) (by decide) ?_
        show Steps p.tables e below (T97.setTop (mkF m 175 #[.val (.int p0), .val (.int p1), .val (.int p2), .val (.int p3), .val (.int p4), .val (.int p5), .val (.int (1 : Int32)), .val (.int (1 : Int32)), .val (.int ac), .val (.ref cd), .val (.int (((1 : Int32) &&& 1) &&& 1)), .val (.int (((1 : Int32) &&& 1) &&& 1)), .val (.int (1 : Int32)), .val (.int (1 : Int32))] [(.int (1 : Int32))])) _
        exact k_)
    obtain ⟨fs, hr, hrun, hended, hW, hsame⟩ := X97.leave (v := some (.int (1 : Int32))) (fun h => by rw [Bd.returns] at h; cases h)
    refine ⟨_, _, pre98 _ ?_, hrun, hended, _, _, rfl, ?_, ⟨_, rfl⟩, hW, hsame.mono (by decide) (by decide)⟩
    · exact retN X97 hx (t := .boolean) Bd.returns (by simp) (hb hby at_175) hr
    · show Q0 Z p0 p1 p2 p3 p4 p5 de h0 n0 _ T97.heap _
      rw [e97]
      exact ⟨rfl, N97⟩
set_option maxRecDepth 65536 in
set_option maxHeartbeats 40000000 in
theorem comes_1 {Post : Tables → Env → Array Value → State → Outcome → State → Prop} (hpost : ∀ tb e args s v u, (limb_1_1.after args s (.returned v) u = true ∧ limb_1_2.after args s (.returned v) u = true ∧ True) → FrameEnd s (.returned v) u (Jvm.fieldLocs frame_1_writes args s ++ Jvm.arrayLocs frame_1_arrays args s ++ Jvm.staticLocs frame_1_statics s) 40 256 → Post tb e args s (.returned v) u) :
    ArmFor flags0 classFile x code maxLocals ret World_1 tables_1 room_1 Calls_1 rest_1 Pre_1 Post := by
  intro l hfl _ _ p e ha hc hk s m args below hf hA hF happ hP
  obtain ⟨hcalls, hrest, hpre⟩ := hP
  obtain ⟨-, -, -, hnamed, -, -, -, hat⟩ := (Spec.applies_iff hf).mp happ
  obtain ⟨hg, hn⟩ := and_e (Cond.before_iff.mp (show (Jvm.Cond.and given_1 narrow_1).before args s = true from hpre))
  obtain ⟨hcount, hg0⟩ := and_e hg
  obtain ⟨ha0, hg1⟩ := and_e hg0
  obtain ⟨ha1, hg2⟩ := and_e hg1
  obtain ⟨ha2, hg3⟩ := and_e hg2
  obtain ⟨ha3, hg4⟩ := and_e hg3
  obtain ⟨ha4, hg5⟩ := and_e hg4
  have ha5 := hg5
  obtain ⟨w0, w1, w2, w3, w4, w5, rfl⟩ : ∃ w0 w1 w2 w3 w4 w5 : Value, args = #[w0, w1, w2, w3, w4, w5] := by
    have hs : args.size = 6 := by simpa [Cond.value, given_1] using hcount
    obtain ⟨L⟩ := args
    match L, hs with
    | [w0, w1, w2, w3, w4, w5], _ => exact ⟨w0, w1, w2, w3, w4, w5, rfl⟩
  have hw := fun d (hd : d ∈ tables_1) => atoms_spec (ws := Jvm.Cond.code x code maxLocals ret :: tables_1) hat d (List.mem_cons_of_mem _ hd)
  have hfit : Fit s := fun {y c} hc i hi => by
    obtain ⟨ha, rfl⟩ := Array.getElem?_eq_some_iff.mp hc
    have q := List.all_eq_true.mp ((Array.all_eq_true_iff_forall_mem.mp hF) _ (Array.getElem_mem ha)) i (List.mem_range.mpr hi)
    simpa [Array.getElem?_eq_getElem hi] using q
  obtain ⟨hsets, hown0⟩ := atoms_of _ (rest_1_c_eq ▸ (show rest_1_c.before _ s = true from hrest))
  have hr0 := Cond.before_iff.mp hown0
  obtain ⟨i0, ei0⟩ := is_v ha0
  obtain rfl : w0 = (.int i0) := Option.some.inj ei0
  obtain ⟨i1, ei1⟩ := is_v ha1
  obtain rfl : w1 = (.int i1) := Option.some.inj ei1
  obtain ⟨i2, ei2⟩ := is_v ha2
  obtain rfl : w2 = (.int i2) := Option.some.inj ei2
  obtain ⟨i3, ei3⟩ := is_v ha3
  obtain rfl : w3 = (.int i3) := Option.some.inj ei3
  obtain ⟨i4, ei4⟩ := is_v ha4
  obtain rfl : w4 = (.int i4) := Option.some.inj ei4
  obtain ⟨i5, ei5⟩ := is_v ha5
  obtain rfl : w5 = (.int i5) := Option.some.inj ei5
  obtain ⟨de, hde⟩ := arr_v (Cond.before_iff.mp (hsets _ (List.mem_of_getElem? (i := 6) rfl)))
  have S0 := Sta.start hde (Or.inr ⟨hw _ (List.mem_of_getElem? (i := 14) rfl), hsets _ (List.mem_of_getElem? (i := 2) rfl)⟩)
  obtain ⟨n, o, h1, h2, h3, _, L, rfl, ⟨rfl, N⟩, hq⟩ := rm0 l s _ hw tables_1 i0 i1 i2 i3 i4 i5 de s.heap s.heap.size (Nat.le_refl _) S0 p e ha hc hk s m _ below hf ((Spec.applies_iff_loose hf).mp happ).1 ⟨rfl, State.Warmed39.refl s, rfl⟩ trivial
  refine ⟨n, _, h1, h2, h3, hpost _ _ _ _ _ _ ⟨Cond.after_iff.mpr rfl, Cond.after_iff.mpr (eq_i res_at (Term.int_eval (1)) rfl), trivial⟩ ⟨hq.1, hq.2.1, (hq.2.2.sift fun y hy => Or.inr (N y hy)).mono (by decide) (by decide)⟩⟩
theorem main_1_1 : Claimed_1_1 := comes_1 fun _ _ _ _ _ _ h hF => ⟨h.1, hF⟩
theorem main_1_2 : Claimed_1_2 := comes_1 fun _ _ _ _ _ _ h hF => ⟨h.2.1, hF⟩
end Jvm.Pilot.@@N@@
namespace Jvm.Pilot.@@N@@
open Jvm Jvm.ClassFile Sem Op Lib Jvm.Free Jvm.Stand Jvm.Pilot.@@N@@.Jvm.D
/-! MADE BY PROGRAM (witnessworld.py) out of the Statement's table words and the real class files: 23 classes; the members and pool entries that the words name. The judged class is class 1, her method 1. -/
namespace start1
open Jvm.ClassFile
def u (s : String) : CpInfo := .utf8 (stringToUtf16 s)
/-- a pool by its gaps: so many unusable entries, then the entry; so many at the end -/
def gap : Nat → List CpInfo → List CpInfo
  | 0, r => r
  | n + 1, r => .unusable :: gap n r
def poolList (es : List (Nat × CpInfo)) (last : Nat) : List CpInfo := es.foldr (fun e r => gap e.1 (e.2 :: r)) (gap last [])
def pool (es : List (Nat × CpInfo)) (last : Nat) : Array CpInfo := ⟨poolList es last⟩
def fileOf (pool : Array CpInfo) (this : Nat) (attrs : Array Attribute := #[]) (ms : Array MethodInfo := #[]) (fl : Nat := 33) (sup : Nat := 0) (ifs : Array Nat := #[]) (fds : Array FieldInfo := #[]) : ClassFile where
  minorVersion := 0
  majorVersion := 65
  constantPool := pool
  accessFlags := fl
  thisClass := this
  superClass := sup
  interfaces := ifs
  fields := fds
  methods := ms
  attributes := attrs
def plain (name : String) (sup : Option ClassId) : Class where
  name := name
  kind := .ordinary
  loader := none
  accessFlags := 33
  super := sup
  interfaces := #[]
  cf := none
  fields := #[]
  methods := #[]
  instanceTypes := #[]
  staticTypes := #[]
  resolved := #[]
  callSites := []
  init := .initialized
  statics := none
  mirror := none

def pool0 : Array CpInfo := pool [(5, u "<init>"), (0, u "()V"), (1, .class_ 10), (1, u "java/lang/Object")] 113

def k0c0 : Code := { maxStack := 0, maxLocals := 1, code := object_method_1_code, exceptionTable := #[], attributes := #[] }
def k0m0 : Method := { name := "<init>", desc := "()V", sig := { parameters := [], returnType := none }, accessFlags := 1, code := some k0c0 }
/-- java/lang/Object -/
def k0 : Class := { plain "java/lang/Object" none with
  accessFlags := 33
  interfaces := #[]
  cf := some (fileOf pool0 8 #[] #[{ accessFlags := 1, nameIndex := 5, descriptorIndex := 6, attributes := #[] }] 33 0 #[] #[])
  fields := #[]
  methods := #[k0m0]
  instanceTypes := #[]
  staticTypes := #[]
  resolved := Array.replicate 124 none
  statics := none }

def pool1 : Array CpInfo := pool [(2, .class_ 4), (0, .nameAndType 5 6), (0, u "java/lang/Object"), (0, u "<init>"), (0, u "()V"), (0, .class_ 8), (0, u "com/example/traceloom/traceloom/discovery/Candidates"), (0, .class_ 10), (0, u "com/example/traceloom/traceloom/discovery/PrefixStates"), (0, .methodref 9 3), (0, .methodref 7 13), (0, .nameAndType 5 14), (0, u "(Lcom/example/traceloom/traceloom/discovery/PrefixStates;II)V"), (0, .methodref 7 16), (0, .nameAndType 17 18), (0, u "add"), (0, u "(III)V"), (0, .methodref 7 20), (0, .nameAndType 21 22), (0, u "take"), (0, u "(I)V"), (0, .methodref 7 24), (0, .nameAndType 25 26), (0, u "taken"), (0, u "(I)Z"), (0, .methodref 7 28), (0, .nameAndType 29 30), (0, u "isEmpty"), (0, u "()Z"), (0, .methodref 7 32), (0, .nameAndType 33 34), (0, u "size"), (0, u "()I"), (0, .class_ 36), (0, u "com/example/traceloom/traceloom/discovery/CandidatesTakePinLaw"), (2, u "law"), (0, u "(IIIIII)Z")] 3

def k1m0 : Method := { name := "<init>", desc := "()V", sig := { parameters := [], returnType := none }, accessFlags := 1, code := none }
def k1c1 : Code := { maxStack := 5, maxLocals := 14, code := code, exceptionTable := #[], attributes := #[] }
def k1m1 : Method := { name := "law", desc := "(IIIIII)Z", sig := { parameters := [.int, .int, .int, .int, .int, .int], returnType := some .boolean }, accessFlags := 9, code := some k1c1 }
/-- com/example/traceloom/traceloom/discovery/CandidatesTakePinLaw -/
def k1 : Class := { plain "com/example/traceloom/traceloom/discovery/CandidatesTakePinLaw" (some 0) with
  accessFlags := 49
  interfaces := #[]
  cf := some (fileOf pool1 35 #[] #[{ accessFlags := 1, nameIndex := 5, descriptorIndex := 6, attributes := #[] }, { accessFlags := 9, nameIndex := 39, descriptorIndex := 40, attributes := #[] }] 49 2 #[] #[])
  fields := #[]
  methods := #[k1m0, k1m1]
  instanceTypes := #[]
  staticTypes := #[]
  resolved := Array.replicate 44 none
  statics := none }

def pool2 : Array CpInfo := pool [(1, .methodref 2 3), (0, .class_ 4), (0, .nameAndType 5 6), (0, u "java/lang/Object"), (0, u "<init>"), (0, u "()V"), (0, .fieldref 8 9), (0, .class_ 10), (0, .nameAndType 11 12), (0, u "com/example/traceloom/traceloom/discovery/Candidates"), (0, u "states"), (0, u "Lcom/example/traceloom/traceloom/discovery/PrefixStates;"), (0, .fieldref 8 14), (0, .nameAndType 15 16), (0, u "capacity"), (0, u "I"), (0, .fieldref 8 18), (0, .nameAndType 19 16), (0, u "activityCount"), (0, .fieldref 8 21), (0, .nameAndType 22 23), (0, u "stateIndexes"), (0, u "[I"), (5, .fieldref 8 30), (0, .nameAndType 31 23), (0, u "followers"), (0, .fieldref 8 33), (0, .nameAndType 34 23), (0, u "positions"), (0, .fieldref 8 36), (0, .nameAndType 37 38), (0, u "counts"), (0, u "[J"), (2, .fieldref 8 42), (0, .nameAndType 43 44), (0, u "taken"), (0, u "[Z"), (2, .fieldref 8 48), (0, .nameAndType 49 38), (0, u "holds"), (0, .fieldref 8 51), (0, .nameAndType 52 16), (0, u "size"), (2, u "copied"), (0, .fieldref 8 57), (0, .nameAndType 58 16), (0, u "left"), (45, u "(Lcom/example/traceloom/traceloom/discovery/PrefixStates;II)V"), (4, u "()I"), (0, u "isEmpty"), (0, u "()Z"), (1, u "add"), (0, u "(III)V"), (0, u "(I)Z"), (3, u "take"), (0, u "(I)V")] 4

def k2c0 : Code := { maxStack := 2, maxLocals := 4, code := prog_18_method_1_code, exceptionTable := #[], attributes := #[] }
def k2m0 : Method := { name := "<init>", desc := "(Lcom/example/traceloom/traceloom/discovery/PrefixStates;II)V", sig := { parameters := [(.object "com/example/traceloom/traceloom/discovery/PrefixStates"), .int, .int], returnType := none }, accessFlags := 0, code := some k2c0 }
def k2c1 : Code := { maxStack := 1, maxLocals := 1, code := prog_18_method_4_code, exceptionTable := #[], attributes := #[] }
def k2m1 : Method := { name := "isEmpty", desc := "()Z", sig := { parameters := [], returnType := some .boolean }, accessFlags := 0, code := some k2c1 }
def k2c2 : Code := { maxStack := 3, maxLocals := 4, code := prog_18_method_7_code, exceptionTable := #[], attributes := #[] }
def k2m2 : Method := { name := "add", desc := "(III)V", sig := { parameters := [.int, .int, .int], returnType := none }, accessFlags := 0, code := some k2c2 }
def k2c3 : Code := { maxStack := 1, maxLocals := 1, code := prog_18_method_8_code, exceptionTable := #[], attributes := #[] }
def k2m3 : Method := { name := "size", desc := "()I", sig := { parameters := [], returnType := some .int }, accessFlags := 0, code := some k2c3 }
def k2c4 : Code := { maxStack := 2, maxLocals := 2, code := prog_18_method_9_code, exceptionTable := #[], attributes := #[] }
def k2m4 : Method := { name := "taken", desc := "(I)Z", sig := { parameters := [.int], returnType := some .boolean }, accessFlags := 0, code := some k2c4 }
def k2c5 : Code := { maxStack := 3, maxLocals := 2, code := prog_18_method_13_code, exceptionTable := #[], attributes := #[] }
def k2m5 : Method := { name := "take", desc := "(I)V", sig := { parameters := [.int], returnType := none }, accessFlags := 0, code := some k2c5 }
/-- com/example/traceloom/traceloom/discovery/Candidates -/
def k2 : Class := { plain "com/example/traceloom/traceloom/discovery/Candidates" (some 0) with
  accessFlags := 48
  interfaces := #[]
  cf := some (fileOf pool2 8 #[] #[{ accessFlags := 0, nameIndex := 5, descriptorIndex := 104, attributes := #[] }, { accessFlags := 0, nameIndex := 110, descriptorIndex := 111, attributes := #[] }, { accessFlags := 0, nameIndex := 113, descriptorIndex := 114, attributes := #[] }, { accessFlags := 0, nameIndex := 52, descriptorIndex := 109, attributes := #[] }, { accessFlags := 0, nameIndex := 43, descriptorIndex := 115, attributes := #[] }, { accessFlags := 0, nameIndex := 119, descriptorIndex := 120, attributes := #[] }] 48 2 #[] #[{ accessFlags := 18, nameIndex := 11, descriptorIndex := 12, attributes := #[] }, { accessFlags := 18, nameIndex := 15, descriptorIndex := 16, attributes := #[] }, { accessFlags := 18, nameIndex := 19, descriptorIndex := 16, attributes := #[] }, { accessFlags := 2, nameIndex := 22, descriptorIndex := 23, attributes := #[] }, { accessFlags := 2, nameIndex := 31, descriptorIndex := 23, attributes := #[] }, { accessFlags := 2, nameIndex := 34, descriptorIndex := 23, attributes := #[] }, { accessFlags := 2, nameIndex := 37, descriptorIndex := 38, attributes := #[] }, { accessFlags := 2, nameIndex := 43, descriptorIndex := 44, attributes := #[] }, { accessFlags := 2, nameIndex := 49, descriptorIndex := 38, attributes := #[] }, { accessFlags := 2, nameIndex := 52, descriptorIndex := 16, attributes := #[] }, { accessFlags := 2, nameIndex := 55, descriptorIndex := 16, attributes := #[] }, { accessFlags := 2, nameIndex := 58, descriptorIndex := 16, attributes := #[] }])
  fields := #[{ name := "states", type := (.object "com/example/traceloom/traceloom/discovery/PrefixStates"), accessFlags := 18, slot := 0, constantValue := 0 }, { name := "capacity", type := .int, accessFlags := 18, slot := 1, constantValue := 0 }, { name := "activityCount", type := .int, accessFlags := 18, slot := 2, constantValue := 0 }, { name := "stateIndexes", type := (.array .int), accessFlags := 2, slot := 3, constantValue := 0 }, { name := "followers", type := (.array .int), accessFlags := 2, slot := 4, constantValue := 0 }, { name := "positions", type := (.array .int), accessFlags := 2, slot := 5, constantValue := 0 }, { name := "counts", type := (.array .long), accessFlags := 2, slot := 6, constantValue := 0 }, { name := "taken", type := (.array .boolean), accessFlags := 2, slot := 7, constantValue := 0 }, { name := "holds", type := (.array .long), accessFlags := 2, slot := 8, constantValue := 0 }, { name := "size", type := .int, accessFlags := 2, slot := 9, constantValue := 0 }, { name := "copied", type := .int, accessFlags := 2, slot := 10, constantValue := 0 }, { name := "left", type := .int, accessFlags := 2, slot := 11, constantValue := 0 }]
  methods := #[k2m0, k2m1, k2m2, k2m3, k2m4, k2m5]
  instanceTypes := #[(.object "com/example/traceloom/traceloom/discovery/PrefixStates"), .int, .int, (.array .int), (.array .int), (.array .int), (.array .long), (.array .boolean), (.array .long), .int, .int, .int]
  staticTypes := #[]
  resolved := Array.replicate 125 none
  statics := none }

def pool3 : Array CpInfo := pool [(1, .methodref 2 3), (0, .class_ 4), (0, .nameAndType 5 6), (0, u "java/lang/Object"), (0, u "<init>"), (0, u "()V"), (0, .class_ 8), (0, u "java/util/ArrayList"), (0, .methodref 7 3), (0, .fieldref 11 12), (0, .class_ 13), (0, .nameAndType 14 15), (0, u "com/example/traceloom/traceloom/discovery/PrefixStates"), (0, u "states"), (0, u "Ljava/util/List;"), (0, .fieldref 11 17), (0, .nameAndType 18 19), (0, u "parents"), (0, u "[I"), (0, .fieldref 11 21), (0, .nameAndType 22 19), (0, u "lastActivities"), (0, .fieldref 11 24), (0, .nameAndType 25 19), (0, u "table"), (0, .fieldref 11 27), (0, .nameAndType 28 19), (0, u "presentActivities"), (0, .fieldref 11 30), (0, .nameAndType 31 19), (0, u "presentCounts"), (0, .fieldref 11 33), (0, .nameAndType 34 19), (0, u "presentStarts"), (24, u "width"), (0, u "I"), (11, u "longest"), (0, u "J")] 68

def k3c0 : Code := { maxStack := 3, maxLocals := 1, code := prog_45_method_1_code, exceptionTable := #[], attributes := #[] }
def k3m0 : Method := { name := "<init>", desc := "()V", sig := { parameters := [], returnType := none }, accessFlags := 0, code := some k3c0 }
/-- com/example/traceloom/traceloom/discovery/PrefixStates -/
def k3 : Class := { plain "com/example/traceloom/traceloom/discovery/PrefixStates" (some 0) with
  accessFlags := 48
  interfaces := #[]
  cf := some (fileOf pool3 11 #[] #[{ accessFlags := 0, nameIndex := 5, descriptorIndex := 6, attributes := #[] }] 48 2 #[] #[{ accessFlags := 18, nameIndex := 14, descriptorIndex := 15, attributes := #[] }, { accessFlags := 2, nameIndex := 18, descriptorIndex := 19, attributes := #[] }, { accessFlags := 2, nameIndex := 22, descriptorIndex := 19, attributes := #[] }, { accessFlags := 2, nameIndex := 25, descriptorIndex := 19, attributes := #[] }, { accessFlags := 2, nameIndex := 59, descriptorIndex := 60, attributes := #[] }, { accessFlags := 2, nameIndex := 28, descriptorIndex := 19, attributes := #[] }, { accessFlags := 2, nameIndex := 31, descriptorIndex := 19, attributes := #[] }, { accessFlags := 2, nameIndex := 34, descriptorIndex := 19, attributes := #[] }, { accessFlags := 2, nameIndex := 72, descriptorIndex := 73, attributes := #[] }])
  fields := #[{ name := "states", type := (.object "java/util/List"), accessFlags := 18, slot := 0, constantValue := 0 }, { name := "parents", type := (.array .int), accessFlags := 2, slot := 1, constantValue := 0 }, { name := "lastActivities", type := (.array .int), accessFlags := 2, slot := 2, constantValue := 0 }, { name := "table", type := (.array .int), accessFlags := 2, slot := 3, constantValue := 0 }, { name := "width", type := .int, accessFlags := 2, slot := 4, constantValue := 0 }, { name := "presentActivities", type := (.array .int), accessFlags := 2, slot := 5, constantValue := 0 }, { name := "presentCounts", type := (.array .int), accessFlags := 2, slot := 6, constantValue := 0 }, { name := "presentStarts", type := (.array .int), accessFlags := 2, slot := 7, constantValue := 0 }, { name := "longest", type := .long, accessFlags := 2, slot := 8, constantValue := 0 }]
  methods := #[k3m0]
  instanceTypes := #[(.object "java/util/List"), (.array .int), (.array .int), (.array .int), .int, (.array .int), (.array .int), (.array .int), .long]
  staticTypes := #[]
  resolved := Array.replicate 142 none
  statics := none }

def pool4 : Array CpInfo := pool [(8, .class_ 10), (1, u "java/lang/Iterable"), (24, .class_ 36), (0, u "java/lang/Object")] 25

/-- java/lang/Iterable -/
def k4 : Class := { plain "java/lang/Iterable" (some 0) with
  accessFlags := 1537
  interfaces := #[]
  cf := some (fileOf pool4 8 #[] #[] 1537 35 #[] #[])
  fields := #[]
  methods := #[]
  instanceTypes := #[]
  staticTypes := #[]
  resolved := Array.replicate 62 none
  statics := none }

def pool5 : Array CpInfo := pool [(10, .class_ 12), (1, u "java/util/Collection"), (47, .class_ 61), (0, u "java/lang/Object"), (0, .class_ 63), (0, u "java/lang/Iterable")] 51

/-- java/util/Collection -/
def k5 : Class := { plain "java/util/Collection" (some 0) with
  accessFlags := 1537
  interfaces := #[4]
  cf := some (fileOf pool5 10 #[] #[] 1537 60 #[62] #[])
  fields := #[]
  methods := #[]
  instanceTypes := #[]
  staticTypes := #[]
  resolved := Array.replicate 115 none
  statics := none }

def pool6 : Array CpInfo := pool [(1, .methodref 2 3), (0, .class_ 4), (0, .nameAndType 5 6), (0, u "java/lang/Object"), (0, u "<init>"), (0, u "()V"), (1, .class_ 10), (1, u "java/util/AbstractCollection"), (66, .class_ 78), (0, u "java/util/Collection")] 81

def k6c0 : Code := { maxStack := 1, maxLocals := 1, code := jdk_22_method_1_code, exceptionTable := #[], attributes := #[] }
def k6m0 : Method := { name := "<init>", desc := "()V", sig := { parameters := [], returnType := none }, accessFlags := 4, code := some k6c0 }
/-- java/util/AbstractCollection -/
def k6 : Class := { plain "java/util/AbstractCollection" (some 0) with
  accessFlags := 1057
  interfaces := #[5]
  cf := some (fileOf pool6 8 #[] #[{ accessFlags := 4, nameIndex := 5, descriptorIndex := 6, attributes := #[] }] 1057 2 #[77] #[])
  fields := #[]
  methods := #[k6m0]
  instanceTypes := #[]
  staticTypes := #[]
  resolved := Array.replicate 160 none
  statics := none }

def pool7 : Array CpInfo := pool [(8, .class_ 10), (1, u "java/util/SequencedCollection"), (15, .class_ 27), (0, u "java/lang/Object"), (0, .class_ 29), (0, u "java/util/Collection")] 27

/-- java/util/SequencedCollection -/
def k7 : Class := { plain "java/util/SequencedCollection" (some 0) with
  accessFlags := 1537
  interfaces := #[5]
  cf := some (fileOf pool7 8 #[] #[] 1537 26 #[28] #[])
  fields := #[]
  methods := #[]
  instanceTypes := #[]
  staticTypes := #[]
  resolved := Array.replicate 57 none
  statics := none }

def pool8 : Array CpInfo := pool [(8, .class_ 10), (1, u "java/util/List"), (92, .class_ 104), (0, u "java/lang/Object"), (15, .class_ 121), (0, u "java/util/SequencedCollection")] 129

/-- java/util/List -/
def k8 : Class := { plain "java/util/List" (some 0) with
  accessFlags := 1537
  interfaces := #[7]
  cf := some (fileOf pool8 8 #[] #[] 1537 103 #[120] #[])
  fields := #[]
  methods := #[]
  instanceTypes := #[]
  staticTypes := #[]
  resolved := Array.replicate 251 none
  statics := none }

def pool9 : Array CpInfo := pool [(1, .methodref 2 3), (0, .class_ 4), (0, .nameAndType 5 6), (0, u "java/util/AbstractCollection"), (0, u "<init>"), (0, u "()V"), (0, .fieldref 8 9), (0, .class_ 10), (0, .nameAndType 11 12), (0, u "java/util/AbstractList"), (0, u "modCount"), (0, u "I"), (64, .class_ 78), (0, u "java/util/AbstractList$Itr"), (3, .class_ 83), (0, u "java/util/AbstractList$ListItr"), (9, .class_ 94), (0, u "java/util/AbstractList$RandomAccessSubList"), (3, .class_ 99), (0, u "java/util/AbstractList$SubList"), (33, .class_ 134), (0, u "java/util/List"), (73, .class_ 209), (0, u "java/util/AbstractList$SubList$1"), (0, .class_ 211), (0, u "java/util/AbstractList$RandomAccessSpliterator")] 6

def k9c0 : Code := { maxStack := 2, maxLocals := 1, code := jdk_39_method_1_code, exceptionTable := #[], attributes := #[] }
def k9m0 : Method := { name := "<init>", desc := "()V", sig := { parameters := [], returnType := none }, accessFlags := 4, code := some k9c0 }
/-- java/util/AbstractList -/
def k9 : Class := { plain "java/util/AbstractList" (some 6) with
  accessFlags := 1057
  interfaces := #[8]
  cf := some (fileOf pool9 8 #[.nestMembers #[93, 98, 208, 210, 82, 77]] #[{ accessFlags := 4, nameIndex := 5, descriptorIndex := 6, attributes := #[] }] 1057 2 #[133] #[{ accessFlags := 132, nameIndex := 11, descriptorIndex := 12, attributes := #[] }])
  fields := #[{ name := "modCount", type := .int, accessFlags := 132, slot := 0, constantValue := 0 }]
  methods := #[k9m0]
  instanceTypes := #[.int]
  staticTypes := #[]
  resolved := Array.replicate 218 none
  statics := none }

def pool10 : Array CpInfo := pool [(1, .class_ 2), (0, u "java/util/RandomAccess"), (0, .class_ 4), (0, u "java/lang/Object")] 2

/-- java/util/RandomAccess -/
def k10 : Class := { plain "java/util/RandomAccess" (some 0) with
  accessFlags := 1537
  interfaces := #[]
  cf := some (fileOf pool10 1 #[] #[] 1537 3 #[] #[])
  fields := #[]
  methods := #[]
  instanceTypes := #[]
  staticTypes := #[]
  resolved := Array.replicate 7 none
  statics := none }

def pool11 : Array CpInfo := pool [(1, .class_ 2), (0, u "java/lang/Cloneable"), (0, .class_ 4), (0, u "java/lang/Object")] 2

/-- java/lang/Cloneable -/
def k11 : Class := { plain "java/lang/Cloneable" (some 0) with
  accessFlags := 1537
  interfaces := #[]
  cf := some (fileOf pool11 1 #[] #[] 1537 3 #[] #[])
  fields := #[]
  methods := #[]
  instanceTypes := #[]
  staticTypes := #[]
  resolved := Array.replicate 7 none
  statics := none }

def pool12 : Array CpInfo := pool [(1, .class_ 2), (0, u "java/io/Serializable"), (0, .class_ 4), (0, u "java/lang/Object")] 2

/-- java/io/Serializable -/
def k12 : Class := { plain "java/io/Serializable" (some 0) with
  accessFlags := 1537
  interfaces := #[]
  cf := some (fileOf pool12 1 #[] #[] 1537 3 #[] #[])
  fields := #[]
  methods := #[]
  instanceTypes := #[]
  staticTypes := #[]
  resolved := Array.replicate 7 none
  statics := none }

def pool13 : Array CpInfo := pool [(1, .methodref 2 3), (0, .class_ 4), (0, .nameAndType 5 6), (0, u "java/util/AbstractList"), (0, u "<init>"), (0, u "()V"), (2, .fieldref 10 11), (0, .class_ 12), (0, .nameAndType 13 14), (0, u "java/util/ArrayList"), (0, u "elementData"), (0, u "[Ljava/lang/Object;"), (2, u "EMPTY_ELEMENTDATA"), (21, .fieldref 10 40), (0, .nameAndType 41 14), (0, u "DEFAULTCAPACITY_EMPTY_ELEMENTDATA"), (8, u "size"), (0, u "I"), (96, .class_ 149), (0, u "java/util/List"), (112, .class_ 263), (0, u "java/util/ArrayList$ListItr"), (3, .class_ 268), (0, u "java/util/ArrayList$Itr"), (7, .class_ 277), (0, u "java/util/ArrayList$SubList"), (12, .class_ 291), (0, u "java/util/ArrayList$ArrayListSpliterator"), (37, .class_ 330), (0, u "java/util/RandomAccess"), (0, .class_ 332), (0, u "java/lang/Cloneable"), (0, .class_ 334), (0, u "java/io/Serializable"), (0, u "serialVersionUID"), (0, u "J"), (3, u "DEFAULT_CAPACITY"), (159, .class_ 501), (0, u "java/util/ArrayList$SubList$2"), (0, .class_ 503), (0, u "java/util/ArrayList$SubList$1")] 5

def k13c0 : Code := { maxStack := 2, maxLocals := 1, code := jdk_38_method_2_code, exceptionTable := #[], attributes := #[] }
def k13m0 : Method := { name := "<init>", desc := "()V", sig := { parameters := [], returnType := none }, accessFlags := 1, code := some k13c0 }
/-- java/util/ArrayList -/
def k13 : Class := { plain "java/util/ArrayList" (some 9) with
  accessFlags := 33
  interfaces := #[8, 10, 11, 12]
  cf := some (fileOf pool13 10 #[.nestMembers #[290, 276, 500, 502, 262, 267]] #[{ accessFlags := 1, nameIndex := 5, descriptorIndex := 6, attributes := #[] }] 33 2 #[148, 329, 331, 333] #[{ accessFlags := 26, nameIndex := 335, descriptorIndex := 336, attributes := #[] }, { accessFlags := 26, nameIndex := 340, descriptorIndex := 51, attributes := #[] }, { accessFlags := 26, nameIndex := 17, descriptorIndex := 14, attributes := #[] }, { accessFlags := 26, nameIndex := 41, descriptorIndex := 14, attributes := #[] }, { accessFlags := 128, nameIndex := 13, descriptorIndex := 14, attributes := #[] }, { accessFlags := 2, nameIndex := 50, descriptorIndex := 51, attributes := #[] }])
  fields := #[{ name := "serialVersionUID", type := .long, accessFlags := 26, slot := 0, constantValue := 0 }, { name := "DEFAULT_CAPACITY", type := .int, accessFlags := 26, slot := 1, constantValue := 0 }, { name := "EMPTY_ELEMENTDATA", type := (.array (.object "java/lang/Object")), accessFlags := 26, slot := 2, constantValue := 0 }, { name := "DEFAULTCAPACITY_EMPTY_ELEMENTDATA", type := (.array (.object "java/lang/Object")), accessFlags := 26, slot := 3, constantValue := 0 }, { name := "elementData", type := (.array (.object "java/lang/Object")), accessFlags := 128, slot := 1, constantValue := 0 }, { name := "size", type := .int, accessFlags := 2, slot := 2, constantValue := 0 }]
  methods := #[k13m0]
  instanceTypes := #[.int, (.array (.object "java/lang/Object")), .int]
  staticTypes := #[.long, .int, (.array (.object "java/lang/Object")), (.array (.object "java/lang/Object"))]
  resolved := Array.replicate 509 none
  statics := some 0 }

/-- the primitive boolean -/
def k14 : Class := { plain "boolean" none with kind := .primitive 'Z', accessFlags := 0x411 }
/-- [Z -/
def k15 : Class := { plain "[Z" (some 0) with kind := .array 14 .boolean, interfaces := #[11, 12], accessFlags := 1041 }

/-- the primitive byte -/
def k16 : Class := { plain "byte" none with kind := .primitive 'B', accessFlags := 0x411 }
/-- [B -/
def k17 : Class := { plain "[B" (some 0) with kind := .array 16 .byte, interfaces := #[11, 12], accessFlags := 1041 }

/-- the primitive int -/
def k18 : Class := { plain "int" none with kind := .primitive 'I', accessFlags := 0x411 }
/-- [I -/
def k19 : Class := { plain "[I" (some 0) with kind := .array 18 .int, interfaces := #[11, 12], accessFlags := 1041 }

/-- the primitive long -/
def k20 : Class := { plain "long" none with kind := .primitive 'J', accessFlags := 0x411 }
/-- [J -/
def k21 : Class := { plain "[J" (some 0) with kind := .array 20 .long, interfaces := #[11, 12], accessFlags := 1041 }

/-- [Ljava/lang/Object; -/
def k22 : Class := { plain "[Ljava/lang/Object;" (some 0) with kind := .array 0 (.object "java/lang/Object"), interfaces := #[11, 12], accessFlags := 1041 }

def heap : Heap := #[{ cls := 13, slots := #[.long 0, .int 0, .ref 1, .ref 2], vm := .statics 13 },
  { cls := 22, slots := #[], vm := .none },
  { cls := 22, slots := #[], vm := .none }]
def classes : Array Class := #[k0, k1, k2, k3, k4, k5, k6, k7, k8, k9, k10, k11, k12, k13, k14, k15, k16, k17, k18, k19, k20, k21, k22]
def interned : List (Array UInt16 × Addr) := []
def slotsUsed : Nat := 4
def theMethod : MethodId := ⟨1, 1⟩
def args0 : Array Value := #[.int 1, .int 2, .int 3, .int 4, .int 5, .int 6]
def aboutOver (below : List Frame) : State where
  vm := { classes := classes, interned := interned.toArray }
  heap := heap
  slotsUsed := slotsUsed
  threads := #[{ frames := .invoking theMethod args0 :: below }]
def below0 : List Frame := [.native { method := ⟨0, 0⟩, args := #[] }]
def about1 : State := aboutOver below0
def p0 : Program := .bare "" "" ""
def e0 : Env := launch0.env 0 0 0
theorem w_frames : about1.frames = Frame.invoking theMethod args0 :: below0 := rfl
set_option maxRecDepth 65536 in
theorem w_args : argsFit about1.vm theMethod args0 = true := by decide +kernel
set_option maxRecDepth 65536 in
theorem w_heap : heapFits about1 = true := by decide +kernel
set_option maxRecDepth 65536 in
theorem w_runnable : about1.curStatus? = some .runnable := by decide +kernel
set_option maxRecDepth 65536 in
theorem w_alone : about1.alone = true := by decide +kernel
set_option maxRecDepth 65536 in
theorem w_named : about1.methodNamed? x = some theMethod := by decide +kernel
set_option maxRecDepth 65536 in
theorem w_hears : about1.hears theMethod below0 = true := by decide +kernel
set_option maxRecDepth 65536 in
theorem w_ripe : about1.ripe theMethod args0 below0 = true := by decide +kernel
theorem w_running : about1.status = .running := rfl
set_option maxRecDepth 65536 in
theorem w_room : about1.hasRoom e0.platform room_1 = true :=
  launch0.hasRoom_least _ room_1 (by decide +kernel) (by decide +kernel) (by decide +kernel) (by decide +kernel) (by decide +kernel) (by decide +kernel)
theorem allAtoms_all (ts : List Jvm.Cond) (a : Array Jvm.Value) (st : Jvm.State) : (allAtoms ts).before a st = ts.all (fun c => c.before a st) := by
  induction ts with
  | nil => rfl
  | cons c t ih =>
    show (Jvm.Cond.and c (allAtoms t)).before a st = _
    rw [Jvm.Cond.before_and, ih, List.all_cons]
def words1 : List Jvm.Cond := Jvm.Cond.code x code maxLocals ret :: tables_1
/-- a 'code' word, met by the world's own term for the bytes: nothing is compared byte by byte -/
theorem code_word {y : MethodName} {bytes : ByteArray} {mx : Nat} {rt : Option FieldType} {a : Array Value} {s : State} {m : MethodId} {meth : Method} {c : Code} (h1 : s.methodNamed? y = some m) (h2 : s.vm.method? m = some meth) (h3 : meth.code = some c) (h4 : c.code = bytes)
    (h5 : (c.maxLocals == mx && c.exceptionTable.isEmpty && decide (c.maxStack ≤ mostOperands) && decide (meth.sig.returnType = rt) && !meth.locks && decide (parseMethodDescriptor y.desc = some meth.sig)) = true) : (Jvm.Cond.code y bytes mx rt).before a s = true := by
  simp only [Bool.and_eq_true, beq_iff_eq, Bool.not_eq_true', decide_eq_true_eq] at h5
  obtain ⟨⟨⟨⟨⟨g1, g2⟩, g3⟩, g4⟩, g5⟩, g6⟩ := h5
  simp [Cond.before, Cond.holds, Cond.value, h1, h2, h3, h4, g1, g2, g3, g4, g5, g6]
def isCode : Jvm.Cond → Bool
  | .code _ _ _ _ => true
  | _ => false
theorem all_split {L : List Jvm.Cond} {P : Jvm.Cond → Bool} (h1 : L.all (fun c => isCode c || P c) = true) (h2 : ∀ c ∈ L.filter isCode, P c = true) : L.all P = true := by
  refine List.all_eq_true.mpr fun c hc => ?_
  have h := List.all_eq_true.mp h1 c hc
  rcases Bool.eq_false_or_eq_true (isCode c) with hi | hi
  · exact h2 c (List.mem_filter.mpr ⟨hc, hi⟩)
  · simpa [hi] using h
set_option maxRecDepth 65536 in
theorem w_c0 : (Jvm.Cond.code x code maxLocals ret).before args0 about1 = true := code_word (m := ⟨1, 1⟩) (meth := k1m1) (c := k1c1) (by decide +kernel) rfl rfl rfl (by decide +kernel)
set_option maxRecDepth 65536 in
theorem w_c1 : (Jvm.Cond.code ({ cls := "com/example/traceloom/traceloom/discovery/PrefixStates", name := "<init>", desc := "()V" } : Jvm.MethodName) prog_45_method_1_code (1 : Nat) (Option.none : Option Jvm.ClassFile.FieldType)).before args0 about1 = true := code_word (m := ⟨3, 0⟩) (meth := k3m0) (c := k3c0) (by decide +kernel) rfl rfl rfl (by decide +kernel)
set_option maxRecDepth 65536 in
theorem w_c2 : (Jvm.Cond.code ({ cls := "java/lang/Object", name := "<init>", desc := "()V" } : Jvm.MethodName) object_method_1_code (1 : Nat) (Option.none : Option Jvm.ClassFile.FieldType)).before args0 about1 = true := code_word (m := ⟨0, 0⟩) (meth := k0m0) (c := k0c0) (by decide +kernel) rfl rfl rfl (by decide +kernel)
set_option maxRecDepth 65536 in
theorem w_c3 : (Jvm.Cond.code ({ cls := "java/util/ArrayList", name := "<init>", desc := "()V" } : Jvm.MethodName) jdk_38_method_2_code (1 : Nat) (Option.none : Option Jvm.ClassFile.FieldType)).before args0 about1 = true := code_word (m := ⟨13, 0⟩) (meth := k13m0) (c := k13c0) (by decide +kernel) rfl rfl rfl (by decide +kernel)
set_option maxRecDepth 65536 in
theorem w_c4 : (Jvm.Cond.code ({ cls := "java/util/AbstractList", name := "<init>", desc := "()V" } : Jvm.MethodName) jdk_39_method_1_code (1 : Nat) (Option.none : Option Jvm.ClassFile.FieldType)).before args0 about1 = true := code_word (m := ⟨9, 0⟩) (meth := k9m0) (c := k9c0) (by decide +kernel) rfl rfl rfl (by decide +kernel)
set_option maxRecDepth 65536 in
theorem w_c5 : (Jvm.Cond.code ({ cls := "java/util/AbstractCollection", name := "<init>", desc := "()V" } : Jvm.MethodName) jdk_22_method_1_code (1 : Nat) (Option.none : Option Jvm.ClassFile.FieldType)).before args0 about1 = true := code_word (m := ⟨6, 0⟩) (meth := k6m0) (c := k6c0) (by decide +kernel) rfl rfl rfl (by decide +kernel)
set_option maxRecDepth 65536 in
theorem w_c6 : (Jvm.Cond.code ({ cls := "com/example/traceloom/traceloom/discovery/Candidates", name := "<init>", desc := "(Lcom/example/traceloom/traceloom/discovery/PrefixStates;II)V" } : Jvm.MethodName) prog_18_method_1_code (4 : Nat) (Option.none : Option Jvm.ClassFile.FieldType)).before args0 about1 = true := code_word (m := ⟨2, 0⟩) (meth := k2m0) (c := k2c0) (by decide +kernel) rfl rfl rfl (by decide +kernel)
set_option maxRecDepth 65536 in
theorem w_c7 : (Jvm.Cond.code ({ cls := "com/example/traceloom/traceloom/discovery/Candidates", name := "add", desc := "(III)V" } : Jvm.MethodName) prog_18_method_7_code (4 : Nat) (Option.none : Option Jvm.ClassFile.FieldType)).before args0 about1 = true := code_word (m := ⟨2, 2⟩) (meth := k2m2) (c := k2c2) (by decide +kernel) rfl rfl rfl (by decide +kernel)
set_option maxRecDepth 65536 in
theorem w_c8 : (Jvm.Cond.code ({ cls := "com/example/traceloom/traceloom/discovery/Candidates", name := "take", desc := "(I)V" } : Jvm.MethodName) prog_18_method_13_code (2 : Nat) (Option.none : Option Jvm.ClassFile.FieldType)).before args0 about1 = true := code_word (m := ⟨2, 5⟩) (meth := k2m5) (c := k2c5) (by decide +kernel) rfl rfl rfl (by decide +kernel)
set_option maxRecDepth 65536 in
theorem w_c9 : (Jvm.Cond.code ({ cls := "com/example/traceloom/traceloom/discovery/Candidates", name := "taken", desc := "(I)Z" } : Jvm.MethodName) prog_18_method_9_code (2 : Nat) (Option.some Jvm.ClassFile.FieldType.boolean)).before args0 about1 = true := code_word (m := ⟨2, 4⟩) (meth := k2m4) (c := k2c4) (by decide +kernel) rfl rfl rfl (by decide +kernel)
set_option maxRecDepth 65536 in
theorem w_c10 : (Jvm.Cond.code ({ cls := "com/example/traceloom/traceloom/discovery/Candidates", name := "isEmpty", desc := "()Z" } : Jvm.MethodName) prog_18_method_4_code (1 : Nat) (Option.some Jvm.ClassFile.FieldType.boolean)).before args0 about1 = true := code_word (m := ⟨2, 1⟩) (meth := k2m1) (c := k2c1) (by decide +kernel) rfl rfl rfl (by decide +kernel)
set_option maxRecDepth 65536 in
theorem w_c11 : (Jvm.Cond.code ({ cls := "com/example/traceloom/traceloom/discovery/Candidates", name := "size", desc := "()I" } : Jvm.MethodName) prog_18_method_8_code (1 : Nat) (Option.some Jvm.ClassFile.FieldType.int)).before args0 about1 = true := code_word (m := ⟨2, 3⟩) (meth := k2m3) (c := k2c3) (by decide +kernel) rfl rfl rfl (by decide +kernel)
def codes1 : List Jvm.Cond := [Jvm.Cond.code x code maxLocals ret, Jvm.Cond.code ({ cls := "com/example/traceloom/traceloom/discovery/PrefixStates", name := "<init>", desc := "()V" } : Jvm.MethodName) prog_45_method_1_code (1 : Nat) (Option.none : Option Jvm.ClassFile.FieldType), Jvm.Cond.code ({ cls := "java/lang/Object", name := "<init>", desc := "()V" } : Jvm.MethodName) object_method_1_code (1 : Nat) (Option.none : Option Jvm.ClassFile.FieldType), Jvm.Cond.code ({ cls := "java/util/ArrayList", name := "<init>", desc := "()V" } : Jvm.MethodName) jdk_38_method_2_code (1 : Nat) (Option.none : Option Jvm.ClassFile.FieldType), Jvm.Cond.code ({ cls := "java/util/AbstractList", name := "<init>", desc := "()V" } : Jvm.MethodName) jdk_39_method_1_code (1 : Nat) (Option.none : Option Jvm.ClassFile.FieldType), Jvm.Cond.code ({ cls := "java/util/AbstractCollection", name := "<init>", desc := "()V" } : Jvm.MethodName) jdk_22_method_1_code (1 : Nat) (Option.none : Option Jvm.ClassFile.FieldType), Jvm.Cond.code ({ cls := "com/example/traceloom/traceloom/discovery/Candidates", name := "<init>", desc := "(Lcom/example/traceloom/traceloom/discovery/PrefixStates;II)V" } : Jvm.MethodName) prog_18_method_1_code (4 : Nat) (Option.none : Option Jvm.ClassFile.FieldType), Jvm.Cond.code ({ cls := "com/example/traceloom/traceloom/discovery/Candidates", name := "add", desc := "(III)V" } : Jvm.MethodName) prog_18_method_7_code (4 : Nat) (Option.none : Option Jvm.ClassFile.FieldType), Jvm.Cond.code ({ cls := "com/example/traceloom/traceloom/discovery/Candidates", name := "take", desc := "(I)V" } : Jvm.MethodName) prog_18_method_13_code (2 : Nat) (Option.none : Option Jvm.ClassFile.FieldType), Jvm.Cond.code ({ cls := "com/example/traceloom/traceloom/discovery/Candidates", name := "taken", desc := "(I)Z" } : Jvm.MethodName) prog_18_method_9_code (2 : Nat) (Option.some Jvm.ClassFile.FieldType.boolean), Jvm.Cond.code ({ cls := "com/example/traceloom/traceloom/discovery/Candidates", name := "isEmpty", desc := "()Z" } : Jvm.MethodName) prog_18_method_4_code (1 : Nat) (Option.some Jvm.ClassFile.FieldType.boolean), Jvm.Cond.code ({ cls := "com/example/traceloom/traceloom/discovery/Candidates", name := "size", desc := "()I" } : Jvm.MethodName) prog_18_method_8_code (1 : Nat) (Option.some Jvm.ClassFile.FieldType.int)]
set_option maxRecDepth 65536 in
theorem codes_eq : words1.filter isCode = codes1 := rfl
theorem w_codes : ∀ c ∈ words1.filter isCode, c.before args0 about1 = true := by
  rw [codes_eq]
  intro c hc
  simp only [codes1, List.mem_cons, List.not_mem_nil, or_false] at hc
  rcases hc with rfl | rfl | rfl | rfl | rfl | rfl | rfl | rfl | rfl | rfl | rfl | rfl
  · exact w_c0
  · exact w_c1
  · exact w_c2
  · exact w_c3
  · exact w_c4
  · exact w_c5
  · exact w_c6
  · exact w_c7
  · exact w_c8
  · exact w_c9
  · exact w_c10
  · exact w_c11
set_option maxRecDepth 65536 in
theorem w_t1 : (words1.take 24).all (fun c => isCode c || c.before args0 about1) = true := by decide +kernel
set_option maxRecDepth 65536 in
theorem w_t2 : ((words1.drop 24).take 24).all (fun c => isCode c || c.before args0 about1) = true := by decide +kernel
set_option maxRecDepth 65536 in
theorem w_t3 : (((words1.drop 24).drop 24).take 24).all (fun c => isCode c || c.before args0 about1) = true := by decide +kernel
set_option maxRecDepth 65536 in
theorem w_t4 : ((((words1.drop 24).drop 24).drop 24).take 24).all (fun c => isCode c || c.before args0 about1) = true := by decide +kernel
set_option maxRecDepth 65536 in
theorem w_t5 : ((((words1.drop 24).drop 24).drop 24).drop 24).all (fun c => isCode c || c.before args0 about1) = true := by decide +kernel
theorem w_tables : (allAtoms (Jvm.Cond.code x code maxLocals ret :: tables_1)).before args0 about1 = true := by
  rw [allAtoms_all]
  show words1.all (fun c => c.before args0 about1) = true
  refine all_split ?_ w_codes
  rw [← List.take_append_drop 24 words1, List.all_append, w_t1, ← List.take_append_drop 24 (words1.drop 24), List.all_append, w_t2, ← List.take_append_drop 24 ((words1.drop 24).drop 24), List.all_append, w_t3, ← List.take_append_drop 24 (((words1.drop 24).drop 24).drop 24), List.all_append, w_t4, w_t5]
  rfl
set_option maxRecDepth 65536 in
theorem w_rest : rest_1_c.before args0 about1 = true := by decide +kernel
set_option maxRecDepth 65536 in
theorem w_case : (Jvm.Cond.and given_1 narrow_1).before args0 about1 = true := by decide +kernel
theorem w_applies : (headSpec (Jvm.Cond.code x code maxLocals ret :: tables_1) room_1).applies x e0.platform about1 = true :=
  (Spec.applies_iff w_frames).mpr ⟨w_running, w_runnable, w_alone, w_named, w_hears, w_ripe, w_room, w_tables⟩
theorem atStart : AtStart classFile x code maxLocals ret World_1 tables_1 room_1 Calls_1 rest_1 Pre_1 launch0 p0 e0 about1 theMethod args0 below0 :=
  ⟨lists_1, trivial, launch0.admits_env _ _ _, launch0.least_env, fairChoices_fair.cas, fairChoices_fair.clock, w_frames, w_args, w_heap, w_applies, trivial, w_rest, w_case⟩
end start1
theorem witness_1 : WitnessClaimed_1 := ⟨start1.p0, start1.e0, start1.about1, start1.theMethod, start1.args0, start1.below0, start1.atStart⟩
end Jvm.Pilot.@@N@@
