import JvmDerived
import JvmDerived.Pilot.@@N@@Statement
import JvmDerived.Pilot.@@N@@Code
set_option linter.unusedVariables false
set_option linter.unusedSimpArgs false
namespace Jvm.Pilot.@@N@@
open Jvm Jvm.ClassFile Sem Op Lib Jvm.Free Jvm.Stand Jvm.LawKit Jvm.RoadKit Bundle Jvm.Pilot.@@N@@.Jvm.D
section OwnGo
/-! a run that comes to its end: what a body's walk owes, of any state on the way -/
def own_Go (tb : Tables) (e : Env) (below : List Frame) (Q : Outcome → State → Prop) (U : State) : Prop := ∃ s₂ o, Steps tb e below U s₂ ∧ s₂.status = .running ∧ Ended s₂ below o ∧ Q o s₂
theorem own_by {tb : Tables} {e : Env} {below : List Frame} {Q : Outcome → State → Prop} {U V : State} (h : ∀ t, Steps tb e below V t → Steps tb e below U t) (k : own_Go tb e below Q V) : own_Go tb e below Q U := by
  obtain ⟨s2, o, h1, h2⟩ := k; exact ⟨s2, o, h _ h1, h2⟩
theorem own_tr {tb : Tables} {e : Env} {below : List Frame} {Q : Outcome → State → Prop} {U V : State} (h : Steps tb e below U V) (k : own_Go tb e below Q V) : own_Go tb e below Q U := own_by (fun _ q => h.trans q) k
theorem own_gen {α : Type} {x y : α} (h : x = y) {tb : Tables} {e : Env} {below : List Frame} {Q : Outcome → State → Prop} (F : α → State) (k : own_Go tb e below Q (F y)) : own_Go tb e below Q (F x) := h ▸ k
def own_ap (f : Option Value → Heap → List Loc → Prop) (v : Option Value) (h : Heap) (L : List Loc) : Prop := f v h L
/-- what a body's contract says of its end -/
def own_Q (s : State) (Qh : Option Value → Heap → List Loc → Prop) (C S : Nat) (o : Outcome) (U' : State) : Prop := ∃ v L, o = .returned v ∧ Qh v U'.heap L ∧ FrameEnd s o U' L C S
variable {p : Program} {l : Launch} {e : Env} {R : Room} {s : State} {m : MethodId} {args : Array Value} {below : List Frame} {meth : Method} {c : Code} {T : State} {locs : List Loc} {cells slots : Nat} {Z : State} {h : Heap} {a : Addr} {pc : Nat} {Ls : Array Slot} {rest : List Value} {Qh : Option Value → Heap → List Loc → Prop} {C S : Nat} {Q : Outcome → State → Prop}
theorem own_leave (X : Stand p l e R s m args below meth c T locs cells slots) (hlk : meth.locks = false) {v : Option Value} (hv : meth.sig.returnType = none → v = none) {f : JFrame}
    (hst : ∀ fs, (∀ (f : JFrame) (acts : List Action), f.method = m → f.locked = none → f.entered = [] → (doReturn e (T.setTop f) acts v).1 = T.setFrames fs) → Steps p.tables e below (T.setTop f) (T.setFrames fs))
    (hq : Qh v T.heap locs) (hC : cells ≤ C) (hS : slots ≤ S) : own_Go p.tables e below (own_Q s Qh C S) (T.setTop f) := by
  obtain ⟨fs, hr, hrun, hended, hW, hsame⟩ := X.leave (v := v) hv hlk
  exact ⟨_, _, hst fs hr, hrun, hended, _, _, rfl, hq, ⟨_, rfl⟩, hW, hsame.mono hC hS⟩
theorem own_retI (X : Stand p l e R s m args below meth c T locs cells slots) (hx : p.tables.exec = Jvm.exec) (hlk : meth.locks = false) (eT : T.heap = h) (hret : meth.sig.returnType = some .int) {z : Int32} (hd : decode c.code pc = .ok (.ireturn, 1))
    (hq : Qh (some (.int z)) h locs) (hC : cells ≤ C) (hS : slots ≤ S) : own_Go p.tables e below (own_Q s Qh C S) (T.setTop (mkF m pc Ls (.int z :: rest))) :=
  own_leave X hlk (v := some (.int z)) (fun q => by rw [hret] at q; cases q) (fun fs hr => retOut X hx hret rfl (Or.inl ⟨rfl, Or.inl rfl, z, rfl⟩) hd hr) (eT ▸ hq) hC hS
theorem own_retN (X : Stand p l e R s m args below meth c T locs cells slots) (hx : p.tables.exec = Jvm.exec) (hlk : meth.locks = false) (eT : T.heap = h) {t : FieldType} (hret : meth.sig.returnType = some t) (ht : t = .boolean ∨ t = .byte ∨ t = .char ∨ t = .short) {z : Int32} (hd : decode c.code pc = .ok (.ireturn, 1))
    (hq : Qh (some (.int (nar t z))) h locs) (hC : cells ≤ C) (hS : slots ≤ S) : own_Go p.tables e below (own_Q s Qh C S) (T.setTop (mkF m pc Ls (.int z :: rest))) :=
  own_leave X hlk (v := some (.int (nar t z))) (fun q => by rw [hret] at q; cases q) (fun fs hr => retN X hx hret ht hd hr) (eT ▸ hq) hC hS
theorem own_retJ (X : Stand p l e R s m args below meth c T locs cells slots) (hx : p.tables.exec = Jvm.exec) (hlk : meth.locks = false) (eT : T.heap = h) (hret : meth.sig.returnType = some .long) {z : Int64} (hd : decode c.code pc = .ok (.lreturn, 1))
    (hq : Qh (some (.long z)) h locs) (hC : cells ≤ C) (hS : slots ≤ S) : own_Go p.tables e below (own_Q s Qh C S) (T.setTop (mkF m pc Ls (.long z :: rest))) :=
  own_leave X hlk (v := some (.long z)) (fun q => by rw [hret] at q; cases q) (fun fs hr => retOut X hx hret rfl (Or.inr (Or.inl ⟨rfl, rfl, z, rfl⟩)) hd hr) (eT ▸ hq) hC hS
theorem own_retA (X : Stand p l e R s m args below meth c T locs cells slots) (hx : p.tables.exec = Jvm.exec) (hlk : meth.locks = false) (eT : T.heap = h) {t : FieldType} (hret : meth.sig.returnType = some t) (ht : t.isReference = true) {w : Value} (hn : narrow t w = w) (hw : w.isRef = true) (hd : decode c.code pc = .ok (.areturn, 1))
    (hq : Qh (some w) h locs) (hC : cells ≤ C) (hS : slots ≤ S) : own_Go p.tables e below (own_Q s Qh C S) (T.setTop (mkF m pc Ls (w :: rest))) :=
  own_leave X hlk (v := some w) (fun q => by rw [hret] at q; cases q) (fun fs hr => retOut X hx hret hn (Or.inr (Or.inr (Or.inr (Or.inr ⟨rfl, ht, hw⟩)))) hd hr) (eT ▸ hq) hC hS
theorem own_retV (X : Stand p l e R s m args below meth c T locs cells slots) (hx : p.tables.exec = Jvm.exec) (hlk : meth.locks = false) (eT : T.heap = h) (hret : meth.sig.returnType = none) (hd : decode c.code pc = .ok (.return_, 1))
    (hq : Qh none h locs) (hC : cells ≤ C) (hS : slots ≤ S) : own_Go p.tables e below (own_Q s Qh C S) (T.setTop (mkF m pc Ls [])) :=
  own_leave X hlk (v := none) (fun _ => rfl) (fun fs hr => X.returnOut hx hret hd hr) (eT ▸ hq) hC hS
/-! an array by its places -/
def own_upd {α : Type} (f : Nat → α) (k : Nat) (v : α) : Nat → α := fun j => if j = k then v else f j
theorem own_upd_eq {α : Type} (f : Nat → α) (k : Nat) (v : α) : own_upd f k v k = v := by simp [own_upd]
theorem own_upd_ne {α : Type} (f : Nat → α) {k j : Nat} (v : α) (q : j ≠ k) : own_upd f k v j = f j := by simp [own_upd, q]
def own_Ar (Z : State) (h : Heap) (a : Addr) (ty : FieldType) (n : Nat) (f : Nat → Value) : Prop := ∃ cl : Cell, Arr Z h a cl ty ∧ cl.slots.size = n ∧ ∀ j, j < n → cl.slots[j]? = some (f j)
/-- ints and what is kept as ints -/
abbrev own_AI (Z : State) (h : Heap) (a : Addr) (ty : FieldType) (n : Nat) (f : Nat → Int32) : Prop := own_Ar Z h a ty n (fun j => .int (f j))
abbrev own_AJ (Z : State) (h : Heap) (a : Addr) (n : Nat) (f : Nat → Int64) : Prop := own_Ar Z h a .long n (fun j => .long (f j))
section
variable {h' : Heap} {b : Addr} {ty : FieldType} {n : Nat} {f : Nat → Value} {v : Value} {sl : Nat} {ws : List Addr}
theorem own_Ar.lt (A : own_Ar Z h a ty n f) : a < h.size := by obtain ⟨cl, q, -⟩ := A; exact q.lt
theorem own_Ar.ext (A : own_Ar Z h a ty n f) (E : Ext h h') : own_Ar Z h' a ty n f := by obtain ⟨cl, q, r⟩ := A; exact ⟨cl, q.ext E, r⟩
theorem own_Ar.other (A : own_Ar Z h a ty n f) (W : Wr h h' b sl v) (q : a ≠ b) : own_Ar Z h' a ty n f := by obtain ⟨cl, r, r'⟩ := A; exact ⟨cl, r.other W q, r'⟩
theorem own_Ar.keep (A : own_Ar Z h a ty n f) (K : Keep h h' ws) (q : a ∉ ws) : own_Ar Z h' a ty n f := by obtain ⟨cl, r, r'⟩ := A; exact ⟨cl, ⟨K.2.1 _ _ r.1 q, r.2⟩, r'⟩
theorem own_Ar.congr (A : own_Ar Z h a ty n f) {g : Nat → Value} (q : ∀ j, j < n → f j = g j) : own_Ar Z h a ty n g := by obtain ⟨cl, r, r1, r2⟩ := A; exact ⟨cl, r, r1, fun j hj => by rw [r2 j hj, q j hj]⟩
theorem own_in {j : Int32} {k n : Nat} (hk : j.toInt = (k : Int)) (hn : k < n) {cl : Cell} (S : cl.slots.size = n) : ¬ (j < 0 ∨ cl.slots.size ≤ j.toNatClampNeg) ∧ j.toNatClampNeg = k := by
  have q : j.toNatClampNeg = k := by simp [Int32.toNatClampNeg, hk]
  refine ⟨fun r => ?_, q⟩
  rcases r with r | r
  · rw [Int32.lt_iff_toInt_lt] at r; simp only [Int32.reduceToInt] at r; omega
  · omega
theorem own_Ar.set (A : own_Ar Z h a ty n f) {k : Nat} (hk : k < n) (W : Wr h h' a k v) : own_Ar Z h' a ty n (own_upd f k v) := by
  obtain ⟨cl, r, r1, r2⟩ := A
  refine ⟨_, r.same W, by rw [sz_set]; exact r1, fun j hj => ?_⟩
  show (cl.slots.setIfInBounds k v)[j]? = _
  by_cases q : j = k
  · subst q; simp [own_upd, r1, hj]
  · rw [Array.getElem?_setIfInBounds_ne (fun y => q y.symm), r2 j hj, own_upd_ne _ _ q]
end
theorem own_bal (X : Stand p l e R s m args below meth c T locs cells slots) (hx : p.tables.exec = Jvm.exec) (hZ : Z.Warmed39 s.vm) (eT : T.heap = h) {n : Nat} {f : Nat → Value} (A : own_Ar Z h a .byte n f) {j : Int32} (k : Nat) (hk : j.toInt = (k : Int)) (hn : k < n) (hd : decode c.code pc = .ok (.baload, 1)) {t : State}
    (kt : Steps p.tables e below (T.setTop (mkF m (pc + 1) Ls (f k :: rest))) t) : Steps p.tables e below (T.setTop (mkF m pc Ls (.int j :: .ref a :: rest))) t := by
  obtain ⟨cl, r, r1, r2⟩ := A
  obtain ⟨q1, q2⟩ := own_in hk hn r1
  exact X.baloadBytes hx (j := j) (v := f k) (by rw [eT]; exact r.1) (State.isArrayOf_alike hZ.alike r.2.1) r.2.2 q1 (by rw [q2]; exact r2 k hn) (g := mkF m pc Ls (.int j :: .ref a :: rest)) rfl rfl hd _ kt
theorem own_ial (X : Stand p l e R s m args below meth c T locs cells slots) (hx : p.tables.exec = Jvm.exec) (hZ : Z.Warmed39 s.vm) (eT : T.heap = h) {n : Nat} {f : Nat → Value} (A : own_Ar Z h a .int n f) {j : Int32} (k : Nat) (hk : j.toInt = (k : Int)) (hn : k < n) (hd : decode c.code pc = .ok (.iaload, 1)) {t : State}
    (kt : Steps p.tables e below (T.setTop (mkF m (pc + 1) Ls (f k :: rest))) t) : Steps p.tables e below (T.setTop (mkF m pc Ls (.int j :: .ref a :: rest))) t := by
  obtain ⟨cl, r, r1, r2⟩ := A
  obtain ⟨q1, q2⟩ := own_in hk hn r1
  exact X.iaload hx (j := j) (v := f k) (by rw [eT]; exact r.1) (State.isArrayOf_alike hZ.alike r.2.1) r.2.2 q1 (by rw [q2]; exact r2 k hn) (g := mkF m pc Ls (.int j :: .ref a :: rest)) rfl rfl hd _ kt
theorem own_lal (X : Stand p l e R s m args below meth c T locs cells slots) (hx : p.tables.exec = Jvm.exec) (hZ : Z.Warmed39 s.vm) (eT : T.heap = h) {n : Nat} {f : Nat → Value} (A : own_Ar Z h a .long n f) {j : Int32} (k : Nat) (hk : j.toInt = (k : Int)) (hn : k < n) (hd : decode c.code pc = .ok (.laload, 1)) {t : State}
    (kt : Steps p.tables e below (T.setTop (mkF m (pc + 1) Ls (f k :: rest))) t) : Steps p.tables e below (T.setTop (mkF m pc Ls (.int j :: .ref a :: rest))) t := by
  obtain ⟨cl, r, r1, r2⟩ := A
  obtain ⟨q1, q2⟩ := own_in hk hn r1
  exact X.laload hx (j := j) (v := f k) (by rw [eT]; exact r.1) (State.isArrayOf_alike hZ.alike r.2.1) r.2.2 q1 (by rw [q2]; exact r2 k hn) (g := mkF m pc Ls (.int j :: .ref a :: rest)) rfl rfl hd _ kt
theorem own_len (X : Stand p l e R s m args below meth c T locs cells slots) (hx : p.tables.exec = Jvm.exec) (hZ : Z.Warmed39 s.vm) (eT : T.heap = h) {ty : FieldType} {n : Nat} {f : Nat → Value} (A : own_Ar Z h a ty n f) (z : Int32) (hz : z = n.toInt32) (hd : decode c.code pc = .ok (.arraylength, 1)) {t : State}
    (kt : Steps p.tables e below (T.setTop (mkF m (pc + 1) Ls (.int z :: rest))) t) : Steps p.tables e below (T.setTop (mkF m pc Ls (.ref a :: rest))) t := by
  obtain ⟨cl, r, r1, r2⟩ := A
  refine X.arraylength hx (by rw [eT]; exact r.1) (State.isArrayOf_alike hZ.alike r.2.1) (g := mkF m pc Ls (.ref a :: rest)) rfl rfl hd _ ?_
  rw [r1, ← hz]; exact kt
theorem own_bas (X : Stand p l e R s m args below meth c T locs cells slots) (hx : p.tables.exec = Jvm.exec) (hZ : Z.Warmed39 s.vm) (eT : T.heap = h) {n : Nat} {f : Nat → Int32} (A : own_AI Z h a .byte n f) {j x : Int32} (k : Nat) (hk : j.toInt = (k : Int)) (hn : k < n) (hd : decode c.code pc = .ok (.bastore, 1))
    (K : ∀ T' h', Stand p l e R s m args below meth c T' (locs ++ [⟨a, k⟩]) cells slots → T'.heap = h' → Wr h h' a k (.int (nar .byte x)) → own_AI Z h' a .byte n (own_upd f k (nar .byte x)) → own_Go p.tables e below Q (T'.setTop (mkF m (pc + 1) Ls rest))) :
    own_Go p.tables e below Q (T.setTop (mkF m pc Ls (.int x :: .int j :: .ref a :: rest))) := by
  obtain ⟨cl, r, r1, r2⟩ := id A
  obtain ⟨q1, q2⟩ := own_in hk hn r1
  obtain ⟨T', h', X', e', W, st⟩ := stB X hx hZ eT r (j := j) (x := x) q1 (g := mkF m pc Ls (.int x :: .int j :: .ref a :: rest)) rfl rfl hd
  rw [q2] at X' W
  exact own_by st (K T' h' X' e' W ((A.set hn W).congr fun i hi => by simp only [own_upd]; split <;> rfl))
theorem own_ias (X : Stand p l e R s m args below meth c T locs cells slots) (hx : p.tables.exec = Jvm.exec) (hZ : Z.Warmed39 s.vm) (eT : T.heap = h) {n : Nat} {f : Nat → Int32} (A : own_AI Z h a .int n f) {j x : Int32} (k : Nat) (hk : j.toInt = (k : Int)) (hn : k < n) (hd : decode c.code pc = .ok (.iastore, 1))
    (K : ∀ T' h', Stand p l e R s m args below meth c T' (locs ++ [⟨a, k⟩]) cells slots → T'.heap = h' → Wr h h' a k (.int x) → own_AI Z h' a .int n (own_upd f k x) → own_Go p.tables e below Q (T'.setTop (mkF m (pc + 1) Ls rest))) :
    own_Go p.tables e below Q (T.setTop (mkF m pc Ls (.int x :: .int j :: .ref a :: rest))) := by
  obtain ⟨cl, r, r1, r2⟩ := id A
  obtain ⟨q1, q2⟩ := own_in hk hn r1
  obtain ⟨T', h', X', e', W, st⟩ := stI X hx hZ eT r (j := j) (x := x) q1 (g := mkF m pc Ls (.int x :: .int j :: .ref a :: rest)) rfl rfl hd
  rw [q2] at X' W
  exact own_by st (K T' h' X' e' W ((A.set hn W).congr fun i hi => by simp only [own_upd]; split <;> rfl))
theorem own_las (X : Stand p l e R s m args below meth c T locs cells slots) (hx : p.tables.exec = Jvm.exec) (hZ : Z.Warmed39 s.vm) (eT : T.heap = h) {n : Nat} {f : Nat → Int64} (A : own_AJ Z h a n f) {j : Int32} {x : Int64} (k : Nat) (hk : j.toInt = (k : Int)) (hn : k < n) (hd : decode c.code pc = .ok (.lastore, 1))
    (K : ∀ T' h', Stand p l e R s m args below meth c T' (locs ++ [⟨a, k⟩]) cells slots → T'.heap = h' → Wr h h' a k (.long x) → own_AJ Z h' a n (own_upd f k x) → own_Go p.tables e below Q (T'.setTop (mkF m (pc + 1) Ls rest))) :
    own_Go p.tables e below Q (T.setTop (mkF m pc Ls (.long x :: .int j :: .ref a :: rest))) := by
  obtain ⟨cl, r, r1, r2⟩ := id A
  obtain ⟨q1, q2⟩ := own_in hk hn r1
  obtain ⟨T', h', X', e', W, st⟩ := stJ X hx hZ eT r (j := j) (x := x) q1 (g := mkF m pc Ls (.long x :: .int j :: .ref a :: rest)) rfl rfl hd
  rw [q2] at X' W
  exact own_by st (K T' h' X' e' W ((A.set hn W).congr fun i hi => by simp only [own_upd]; split <;> rfl))
theorem own_newP (X : Stand p l e R s m args below meth c T locs cells slots) (hx : p.tables.exec = Jvm.exec) (hZ : Z.Warmed39 s.vm) {a0 : Array Value} {aty : ArrayType} (w : (Cond.arrayClass (newarray.typeOf aty)).before a0 Z = true) (eT : T.heap = h) {n : Int32} (k : Nat) (hk : n.toInt = (k : Int)) (cap : Nat) (hcap : k ≤ cap) (hb : cap * 8 ≤ 536870912) (hc : cells + 1 ≤ R.cells) (hl : slots + cap ≤ R.slots)
    (hd : decode c.code pc = .ok (.newarray aty, 2))
    (K : ∀ T' h', Stand p l e R s m args below meth c T' locs (cells + 1) (slots + cap) → T'.heap = h' → Ext h h' → own_Ar Z h' h.size (newarray.typeOf aty) k (fun _ => defaultValue (newarray.typeOf aty)) → own_Go p.tables e below Q (T'.setTop (mkF m (pc + 2) Ls (.ref h.size :: rest)))) :
    own_Go p.tables e below Q (T.setTop (mkF m pc Ls (.int n :: rest))) := by
  have q : n.toNatClampNeg = k := by simp [Int32.toNatClampNeg, hk]
  have q0 : ¬ n < 0 := by rw [Int32.lt_iff_toInt_lt]; simp only [Int32.reduceToInt]; omega
  obtain ⟨T', h', kk, X', e', E, A, st⟩ := newP X hx hZ w eT (n := n) (g := mkF m pc Ls (.int n :: rest)) rfl hd rfl q0 (cap := cap) (by rw [q]; exact hcap) hb hc hl
  refine own_by st (K T' h' X' e' E ⟨_, A, by rw [sz_new, q], fun j hj => ?_⟩)
  simp [newA, q, hj]
theorem own_size_wr {h h' : Heap} {b : Addr} {sl : Nat} {v : Value} {n0 : Nat} (W : Wr h h' b sl v) (q : n0 ≤ h.size) : n0 ≤ h'.size := by rw [W.size]; exact q
end OwnGo
abbrev own_sr (x : Int64) (k : Int32) : Int64 := ((x.toUInt64 >>> (k &&& 0x3f).toInt64.toUInt64).toInt64)
theorem own_sr_bv (x : Int64) (k : Int32) (n : Nat) (hk : k.toBitVec.toNat % 64 = n) : (own_sr x k).toBitVec = x.toBitVec >>> n := by
  obtain ⟨e, h⟩ := sm64 k n hk
  show (x.toUInt64 >>> (k &&& 0x3f).toInt64.toUInt64).toBitVec = _
  rw [UInt64.toBitVec_shiftRight]
  show x.toBitVec >>> ((k &&& 0x3f).toInt64.toBitVec % 64) = _
  rw [e, BitVec.ushiftRight_eq']
  congr 1
  simp; omega
theorem own_un (x : BitVec 64) (s : Nat) (hs : 64 ≤ 3 * s) : ((x ^^^ x >>> s) ^^^ (x ^^^ x >>> s) >>> s) ^^^ (x ^^^ x >>> s) >>> (2 * s) = x := by
  apply BitVec.eq_of_getLsbD_eq
  intro i hi
  have e1 : s + (s + i) = 2 * s + i := by omega
  have e2 : x.getLsbD (s + (2 * s + i)) = false := BitVec.getLsbD_of_ge _ _ (by omega)
  simp only [BitVec.getLsbD_xor, BitVec.getLsbD_ushiftRight, e1, e2]
  cases x.getLsbD i <;> cases x.getLsbD (s + i) <;> cases x.getLsbD (2 * s + i) <;> rfl
theorem own_unL (x : Int64) (k k2 : Int32) (s : Nat) (hs : 64 ≤ 3 * s) (hs' : s < 32) (hk : k.toBitVec.toNat % 64 = s) (hk2 : k2.toBitVec.toNat % 64 = 2 * s) :
    ((x ^^^ own_sr x k) ^^^ own_sr (x ^^^ own_sr x k) k) ^^^ own_sr (x ^^^ own_sr x k) k2 = x := by
  apply Int64.toBitVec_inj.mp
  rw [Int64.toBitVec_xor, Int64.toBitVec_xor, own_sr_bv _ k2 (2 * s) hk2, own_sr_bv _ k s hk, Int64.toBitVec_xor, own_sr_bv _ k s hk]
  exact own_un _ s hs
abbrev own_K1 : Int64 := -7046029254386353131
abbrev own_K2 : Int64 := -4658895280553007687
abbrev own_K3 : Int64 := -7723592293110705685
def own_mix (z : Int64) : Int64 := (((z ^^^ own_sr z 30) * own_K2) ^^^ own_sr ((z ^^^ own_sr z 30) * own_K2) 27) * own_K3 ^^^ own_sr ((((z ^^^ own_sr z 30) * own_K2) ^^^ own_sr ((z ^^^ own_sr z 30) * own_K2) 27) * own_K3) 31
theorem own_un30 (x : Int64) : ((x ^^^ own_sr x 30) ^^^ own_sr (x ^^^ own_sr x 30) 30) ^^^ own_sr (x ^^^ own_sr x 30) 60 = x := own_unL x 30 60 30 (by decide) (by decide) (by decide) (by decide)
theorem own_un27 (x : Int64) : ((x ^^^ own_sr x 27) ^^^ own_sr (x ^^^ own_sr x 27) 27) ^^^ own_sr (x ^^^ own_sr x 27) 54 = x := own_unL x 27 54 27 (by decide) (by decide) (by decide) (by decide)
theorem own_un31 (x : Int64) : ((x ^^^ own_sr x 31) ^^^ own_sr (x ^^^ own_sr x 31) 31) ^^^ own_sr (x ^^^ own_sr x 31) 62 = x := own_unL x 31 62 31 (by decide) (by decide) (by decide) (by decide)
theorem own_hash1 (w a b c : Int64) (h1 : w = a) (h2 : (a ^^^ own_sr a 30) * (-4658895280553007687 : Int64) = b) (h3 : (b ^^^ own_sr b 27) * (-7723592293110705685 : Int64) = c) : c ^^^ own_sr c 31 = own_mix w := by
  subst h1; subst h2; subst h3; rfl
theorem own_i2 : own_K2 * (-7575587736534282103 : Int64) = 1 := by decide +kernel
theorem own_i3 : own_K3 * (3573116690164977347 : Int64) = 1 := by decide +kernel
theorem own_mul_inj {x y k j : Int64} (hk : k * j = 1) (h : x * k = y * k) : x = y := by
  have q := congrArg (· * j) h
  simp only [Int64.mul_assoc, hk, Int64.mul_one] at q; exact q
theorem own_mix_inj {x y : Int64} (h : own_mix x = own_mix y) : x = y := by
  have h1 := congrArg (fun u => (u ^^^ own_sr u 31) ^^^ own_sr u 62) h
  simp only [own_mix, own_un31] at h1
  have h2 := own_mul_inj own_i3 h1
  have h3 := congrArg (fun u => (u ^^^ own_sr u 27) ^^^ own_sr u 54) h2
  simp only [own_un27] at h3
  have h4 := own_mul_inj own_i2 h3
  have h5 := congrArg (fun u => (u ^^^ own_sr u 30) ^^^ own_sr u 60) h4
  simpa only [own_un30] using h5
theorem own_inj {a b x z : Int64} (hx : own_mix (a + (-7046029254386353131 : Int64)) = x) (hz : own_mix (b + (-7046029254386353131 : Int64)) = z) : z = x ↔ a = b := by
  subst hx; subst hz
  refine ⟨fun h => ?_, fun h => by rw [h]⟩
  have q := own_mix_inj h
  have q' := congrArg (· - (-7046029254386353131 : Int64)) q
  simpa using q'.symm
theorem own_pd0 : parseMethodDescriptor "(J)V" = some ⟨[.long], none⟩ := by decide +kernel
theorem own_pd1 : parseMethodDescriptor "()J" = some ⟨[], some .long⟩ := by decide +kernel
theorem d1_0 : decode prog_36_method_1_code 0 = .ok (.aload_n 0, 1) := by decide +kernel
theorem d1_1 : decode prog_36_method_1_code 1 = .ok (.invokespecial 1, 3) := by decide +kernel
theorem d1_4 : decode prog_36_method_1_code 4 = .ok (.aload_n 0, 1) := by decide +kernel
theorem d1_5 : decode prog_36_method_1_code 5 = .ok (.lload_n 1, 1) := by decide +kernel
theorem d1_6 : decode prog_36_method_1_code 6 = .ok (.putfield 7, 3) := by decide +kernel
theorem d1_9 : decode prog_36_method_1_code 9 = .ok (.return_, 1) := by decide +kernel
theorem pn_1 : plainName "com/example/libmakespan/libmakespan/SplitMix64" = true := by first | (simp [plainName, overriddenIn]; done) | decide +kernel
theorem d3_0 : decode prog_36_method_2_code 0 = .ok (.aload_n 0, 1) := by decide +kernel
theorem d3_1 : decode prog_36_method_2_code 1 = .ok (.dup, 1) := by decide +kernel
theorem d3_2 : decode prog_36_method_2_code 2 = .ok (.getfield 7, 3) := by decide +kernel
theorem d3_5 : decode prog_36_method_2_code 5 = .ok (.ldc2_w 13, 3) := by decide +kernel
theorem d3_8 : decode prog_36_method_2_code 8 = .ok (.ladd, 1) := by decide +kernel
theorem d3_9 : decode prog_36_method_2_code 9 = .ok (.putfield 7, 3) := by decide +kernel
theorem d3_12 : decode prog_36_method_2_code 12 = .ok (.aload_n 0, 1) := by decide +kernel
theorem d3_13 : decode prog_36_method_2_code 13 = .ok (.getfield 7, 3) := by decide +kernel
theorem d3_16 : decode prog_36_method_2_code 16 = .ok (.lstore_n 1, 1) := by decide +kernel
theorem d3_17 : decode prog_36_method_2_code 17 = .ok (.lload_n 1, 1) := by decide +kernel
theorem d3_18 : decode prog_36_method_2_code 18 = .ok (.lload_n 1, 1) := by decide +kernel
theorem d3_19 : decode prog_36_method_2_code 19 = .ok (.bipush 30, 2) := by decide +kernel
theorem d3_21 : decode prog_36_method_2_code 21 = .ok (.lushr, 1) := by decide +kernel
theorem d3_22 : decode prog_36_method_2_code 22 = .ok (.lxor, 1) := by decide +kernel
theorem d3_23 : decode prog_36_method_2_code 23 = .ok (.ldc2_w 15, 3) := by decide +kernel
theorem d3_26 : decode prog_36_method_2_code 26 = .ok (.lmul, 1) := by decide +kernel
theorem d3_27 : decode prog_36_method_2_code 27 = .ok (.lstore_n 1, 1) := by decide +kernel
theorem d3_28 : decode prog_36_method_2_code 28 = .ok (.lload_n 1, 1) := by decide +kernel
theorem d3_29 : decode prog_36_method_2_code 29 = .ok (.lload_n 1, 1) := by decide +kernel
theorem d3_30 : decode prog_36_method_2_code 30 = .ok (.bipush 27, 2) := by decide +kernel
theorem d3_32 : decode prog_36_method_2_code 32 = .ok (.lushr, 1) := by decide +kernel
theorem d3_33 : decode prog_36_method_2_code 33 = .ok (.lxor, 1) := by decide +kernel
theorem d3_34 : decode prog_36_method_2_code 34 = .ok (.ldc2_w 17, 3) := by decide +kernel
theorem d3_37 : decode prog_36_method_2_code 37 = .ok (.lmul, 1) := by decide +kernel
theorem d3_38 : decode prog_36_method_2_code 38 = .ok (.lstore_n 1, 1) := by decide +kernel
theorem d3_39 : decode prog_36_method_2_code 39 = .ok (.lload_n 1, 1) := by decide +kernel
theorem d3_40 : decode prog_36_method_2_code 40 = .ok (.lload_n 1, 1) := by decide +kernel
theorem d3_41 : decode prog_36_method_2_code 41 = .ok (.bipush 31, 2) := by decide +kernel
theorem d3_43 : decode prog_36_method_2_code 43 = .ok (.lushr, 1) := by decide +kernel
theorem d3_44 : decode prog_36_method_2_code 44 = .ok (.lxor, 1) := by decide +kernel
theorem d3_45 : decode prog_36_method_2_code 45 = .ok (.lreturn, 1) := by decide +kernel
theorem pn_3 : plainName "com/example/libmakespan/libmakespan/SplitMix64" = true := by first | (simp [plainName, overriddenIn]; done) | decide +kernel
theorem pn_0 : plainName "com/example/libmakespan/libmakespan/SplitMix64NextPinLaw" = true := by first | (simp [plainName, overriddenIn]; done) | decide +kernel
set_option maxRecDepth 65536 in
set_option maxHeartbeats 40000000 in
theorem rm1 (l : Launch) (Z : State) (a0 : Array Value) (hw : ∀ d ∈ tables_1, d.before a0 Z = true) (ws : List Jvm.Cond) (a1 : Addr) (q1 : Int64)  (h0 : Heap) (n0 : Nat) (Z0 : n0 ≤ h0.size) (E_a : Exa Z h0 a1 "com/example/libmakespan/libmakespan/SplitMix64") (F_a : Fld Z h0 a1 "com/example/libmakespan/libmakespan/SplitMix64" "state" "J" (.long 0)) (g_a : n0 ≤ a1) :
    MetFree l (⟨"com/example/libmakespan/libmakespan/SplitMix64", "<init>", "(J)V"⟩ : MethodName) (head1 (Jvm.Cond.code (⟨"com/example/libmakespan/libmakespan/SplitMix64", "<init>", "(J)V"⟩ : MethodName) prog_36_method_1_code 3 none :: ws) ({ frames := 1, cells := 0, slots := 0, locals := 12 } : Room)) (fun a U => a = #[(.ref a1), (.long q1)] ∧ Z.Warmed39 U.vm ∧ U.heap = h0) (fun _ _ _ _ _ => True) (fun _ U o U' => ∃ v L, o = .returned v ∧ own_ap (fun v h L => v = none ∧ Fr n0 L ∧ Keep h0 h [a1] ∧ Fld Z h a1 "com/example/libmakespan/libmakespan/SplitMix64" "state" "J" (.long q1)) v U'.heap L ∧ FrameEnd U o U' L 0 0) := by
  refine MetFree.of_bodySF (plainFor_of_name pn_1) hisR ?_
  intro p e s m args below meth c s₁ Bd hml0 hP hK
  obtain ⟨rfl, hZ, hh⟩ := hP
  have hx := Bd.exec
  have hby := Bd.bytes
  have hml : c.maxLocals = 3 := hml0
  have hown : s.vm.findClass "com/example/libmakespan/libmakespan/SplitMix64" = some m.cls := findClass_of_methodNamed Bd.named
  have hnm := (name_of_methodNamed Bd.named Bd.method).1
  have X0 : Stand p l e ({ frames := 1, cells := 0, slots := 0, locals := 12 } : Room) s m #[(.ref a1), (.long q1)] below meth c s₁ [] 0 0 := Stand.of_body Bd
  have e0 : s₁.heap = h0 := by rw [← hh, Bd.state]; rfl
  have N0 := Fr.nil n0
  show own_Go p.tables e below (own_Q s (fun v h L => v = none ∧ Fr n0 L ∧ Keep h0 h [a1] ∧ Fld Z h a1 "com/example/libmakespan/libmakespan/SplitMix64" "state" "J" (.long q1)) 0 0) (s₁.setTop (entryFrame m #[(.ref a1), (.long q1)] 3))
  rw [show entryFrame m #[(.ref a1), (.long q1)] 3 = mkF m 0 #[.val (.ref a1), .val (.long q1), .second] [] from by first | (simp [entryFrame, mkF, argsToLocals, Value.category]; done) | rfl]
  show own_Go _ _ _ _ (s₁.setTop (mkF m 0 #[.val (.ref a1), .val (.long q1), .second] []))
  refine own_by (fun _ k => XS.aloadN X0.here hx rfl (hb hby d1_0) rfl rfl k) ?_
  show own_Go _ _ _ _ (s₁.setTop (mkF m 1 #[.val (.ref a1), .val (.long q1), .second] [(.ref a1)]))
  obtain ⟨T1, X1, e1, st1⟩ := initO X0 hx hZ hown (hw _ (List.mem_of_getElem? (i := 6) rfl)) (hw _ (List.mem_of_getElem? (i := 7) rfl)) (hw _ (List.mem_of_getElem? (i := 8) rfl)) e0 (g := (mkF m 1 #[.val (.ref a1), .val (.long q1), .second] [(.ref a1)])) rfl (by rw [hml]; rfl) rfl (hb hby d1_1) (by decide) (W := 0) (by show 2 * 0 + _ ≤ _; exact Nat.le_of_eq rfl) (by decide)
  refine own_by st1 ?_
  show own_Go _ _ _ _ (T1.setTop (mkF m 4 #[.val (.ref a1), .val (.long q1), .second] []))
  refine own_by (fun _ k => XS.aloadN X1.here hx rfl (hb hby d1_4) rfl rfl k) ?_
  show own_Go _ _ _ _ (T1.setTop (mkF m 5 #[.val (.ref a1), .val (.long q1), .second] [(.ref a1)]))
  refine own_by (fun _ k => XS.lloadN X1.here hx rfl (hb hby d1_5) rfl k) ?_
  show own_Go _ _ _ _ (T1.setTop (mkF m 6 #[.val (.ref a1), .val (.long q1), .second] [(.long q1), (.ref a1)]))
  obtain ⟨T2, h2, X2, e2, W2, st2⟩ := putF X1 hx hZ hown (host := "") (Or.inl (hw _ (List.mem_of_getElem? (i := 9) rfl))) Via.refl e1 F_a E_a (Or.inl (hw _ (List.mem_of_getElem? (i := 10) rfl))) (hw _ (List.mem_of_getElem? (i := 1) rfl)) (ty := .long) (by decide) rfl rfl (g := (mkF m 6 #[.val (.ref a1), .val (.long q1), .second] [(.long q1), (.ref a1)])) rfl rfl (hb hby d1_6)
  refine own_by st2 ?_
  have f3 := F_a.same W2
  have f4 := E_a.wr W2
  have f5 := (Keep.refl h0 [a1]).wr W2 (Or.inl (List.mem_of_getElem? (i := 0) rfl))
  have N2 := Fr.snoc X2 N0 g_a
  have Z2 := own_size_wr W2 Z0
  show own_Go _ _ _ _ (T2.setTop (mkF m 9 #[.val (.ref a1), .val (.long q1), .second] []))
  exact own_retV X2 hx Bd.notSynchronized e2 Bd.returns (hb hby d1_9) (⟨rfl, N2, f5, f3⟩) (by decide) (by decide)
set_option maxRecDepth 65536 in
set_option maxHeartbeats 40000000 in
theorem rm3 (l : Launch) (Z : State) (a0 : Array Value) (hw : ∀ d ∈ tables_1, d.before a0 Z = true) (ws : List Jvm.Cond) (a1 : Addr) (q2 : Int64) (h0 : Heap) (n0 : Nat) (Z0 : n0 ≤ h0.size) (E_a : Exa Z h0 a1 "com/example/libmakespan/libmakespan/SplitMix64") (F_a : Fld Z h0 a1 "com/example/libmakespan/libmakespan/SplitMix64" "state" "J" (.long q2)) (g_a : n0 ≤ a1) :
    MetFree l (⟨"com/example/libmakespan/libmakespan/SplitMix64", "next", "()J"⟩ : MethodName) (head1 (Jvm.Cond.code (⟨"com/example/libmakespan/libmakespan/SplitMix64", "next", "()J"⟩ : MethodName) prog_36_method_2_code 3 (some .long) :: ws) ({ frames := 0, cells := 0, slots := 0, locals := 0 } : Room)) (fun a U => a = #[(.ref a1)] ∧ Z.Warmed39 U.vm ∧ U.heap = h0) (fun _ _ _ _ _ => True) (fun _ U o U' => ∃ v L, o = .returned v ∧ own_ap (fun v h L => v = some (.long (own_mix (q2 + (-7046029254386353131 : Int64)))) ∧ Fr n0 L ∧ Keep h0 h [a1] ∧ Fld Z h a1 "com/example/libmakespan/libmakespan/SplitMix64" "state" "J" (.long (q2 + (-7046029254386353131 : Int64)))) v U'.heap L ∧ FrameEnd U o U' L 0 0) := by
  refine MetFree.of_bodySF (plainFor_of_name pn_3) hisR ?_
  intro p e s m args below meth c s₁ Bd hml0 hP hK
  obtain ⟨rfl, hZ, hh⟩ := hP
  have hx := Bd.exec
  have hby := Bd.bytes
  have hml : c.maxLocals = 3 := hml0
  have hown : s.vm.findClass "com/example/libmakespan/libmakespan/SplitMix64" = some m.cls := findClass_of_methodNamed Bd.named
  have hnm := (name_of_methodNamed Bd.named Bd.method).1
  have X0 : Stand p l e ({ frames := 0, cells := 0, slots := 0, locals := 0 } : Room) s m #[(.ref a1)] below meth c s₁ [] 0 0 := Stand.of_body Bd
  have e0 : s₁.heap = h0 := by rw [← hh, Bd.state]; rfl
  have N0 := Fr.nil n0
  show own_Go p.tables e below (own_Q s (fun v h L => v = some (.long (own_mix (q2 + (-7046029254386353131 : Int64)))) ∧ Fr n0 L ∧ Keep h0 h [a1] ∧ Fld Z h a1 "com/example/libmakespan/libmakespan/SplitMix64" "state" "J" (.long (q2 + (-7046029254386353131 : Int64)))) 0 0) (s₁.setTop (entryFrame m #[(.ref a1)] 3))
  rw [show entryFrame m #[(.ref a1)] 3 = mkF m 0 #[.val (.ref a1), .unset, .unset] [] from by first | (simp [entryFrame, mkF, argsToLocals, Value.category]; done) | rfl]
  show own_Go _ _ _ _ (s₁.setTop (mkF m 0 #[.val (.ref a1), .unset, .unset] []))
  refine own_by (fun _ k => XS.aloadN X0.here hx rfl (hb hby d3_0) rfl rfl k) ?_
  show own_Go _ _ _ _ (s₁.setTop (mkF m 1 #[.val (.ref a1), .unset, .unset] [(.ref a1)]))
  refine own_by (fun _ k => XS.dup X0.here hx rfl (hb hby d3_1) rfl rfl k) ?_
  show own_Go _ _ _ _ (s₁.setTop (mkF m 2 #[.val (.ref a1), .unset, .unset] [(.ref a1), (.ref a1)]))
  obtain ⟨T1, X1, e1, st1⟩ := getF X0 hx hZ hown (host := "") (Or.inl (hw _ (List.mem_of_getElem? (i := 9) rfl))) Via.refl e0 F_a (g := (mkF m 2 #[.val (.ref a1), .unset, .unset] [(.ref a1), (.ref a1)])) rfl rfl (hb hby d3_2)
  refine own_by st1 ?_
  show own_Go _ _ _ _ (T1.setTop (mkF m 5 #[.val (.ref a1), .unset, .unset] [(.long q2), (.ref a1)]))
  refine own_by (fun _ k => X1.ldc2Long hx hown (mvT hZ (hw _ (List.mem_of_getElem? (i := 16) rfl))) (g := (mkF m 5 #[.val (.ref a1), .unset, .unset] [(.long q2), (.ref a1)])) rfl (hb hby d3_5) _ k) ?_
  show own_Go _ _ _ _ (T1.setTop (mkF m 8 #[.val (.ref a1), .unset, .unset] [(.long (-7046029254386353131 : Int64)), (.long q2), (.ref a1)]))
  refine own_by (fun _ k => XS.ladd X1.here hx rfl (hb hby d3_8) rfl k) ?_
  show own_Go _ _ _ _ (T1.setTop (mkF m 9 #[.val (.ref a1), .unset, .unset] [(.long (q2 + (-7046029254386353131 : Int64))), (.ref a1)]))
  obtain ⟨T2, h2, X2, e2, W2, st2⟩ := putF X1 hx hZ hown (host := "") (Or.inl (hw _ (List.mem_of_getElem? (i := 9) rfl))) Via.refl e1 F_a E_a (Or.inl (hw _ (List.mem_of_getElem? (i := 10) rfl))) (hw _ (List.mem_of_getElem? (i := 1) rfl)) (ty := .long) (by decide) rfl rfl (g := (mkF m 9 #[.val (.ref a1), .unset, .unset] [(.long (q2 + (-7046029254386353131 : Int64))), (.ref a1)])) rfl rfl (hb hby d3_9)
  refine own_by st2 ?_
  have f3 := F_a.same W2
  have f4 := E_a.wr W2
  have f5 := (Keep.refl h0 [a1]).wr W2 (Or.inl (List.mem_of_getElem? (i := 0) rfl))
  have N2 := Fr.snoc X2 N0 g_a
  have Z2 := own_size_wr W2 Z0
  show own_Go _ _ _ _ (T2.setTop (mkF m 12 #[.val (.ref a1), .unset, .unset] []))
  refine own_by (fun _ k => XS.aloadN X2.here hx rfl (hb hby d3_12) rfl rfl k) ?_
  show own_Go _ _ _ _ (T2.setTop (mkF m 13 #[.val (.ref a1), .unset, .unset] [(.ref a1)]))
  obtain ⟨T6, X6, e6, st6⟩ := getF X2 hx hZ hown (host := "") (Or.inl (hw _ (List.mem_of_getElem? (i := 9) rfl))) Via.refl e2 f3 (g := (mkF m 13 #[.val (.ref a1), .unset, .unset] [(.ref a1)])) rfl rfl (hb hby d3_13)
  refine own_by st6 ?_
  show own_Go _ _ _ _ (T6.setTop (mkF m 16 #[.val (.ref a1), .unset, .unset] [(.long (q2 + (-7046029254386353131 : Int64)))]))
  obtain ⟨v1_7, hv1_7⟩ : ∃ z_ : Int64, (q2 + (-7046029254386353131 : Int64)) = z_ := ⟨_, rfl⟩
  refine own_gen hv1_7 (fun z_ => T6.setTop (mkF m 16 #[.val (.ref a1), .unset, .unset] [(.long z_)])) ?_
  refine own_by (fun _ k => XS.lstoreN X6.here hx rfl (hb hby d3_16) rfl (l' := #[.val (.ref a1), .val (.long v1_7), .second]) rfl k) ?_
  show own_Go _ _ _ _ (T6.setTop (mkF m 17 #[.val (.ref a1), .val (.long v1_7), .second] []))
  refine own_by (fun _ k => XS.lloadN X6.here hx rfl (hb hby d3_17) rfl k) ?_
  show own_Go _ _ _ _ (T6.setTop (mkF m 18 #[.val (.ref a1), .val (.long v1_7), .second] [(.long v1_7)]))
  refine own_by (fun _ k => XS.lloadN X6.here hx rfl (hb hby d3_18) rfl k) ?_
  show own_Go _ _ _ _ (T6.setTop (mkF m 19 #[.val (.ref a1), .val (.long v1_7), .second] [(.long v1_7), (.long v1_7)]))
  refine own_by (fun _ k => XS.bipush X6.here hx rfl (hb hby d3_19) k) ?_
  show own_Go _ _ _ _ (T6.setTop (mkF m 21 #[.val (.ref a1), .val (.long v1_7), .second] [(.int (30 : Int32)), (.long v1_7), (.long v1_7)]))
  refine own_by (fun _ k => XS.lushr X6.here hx rfl (hb hby d3_21) rfl k) ?_
  show own_Go _ _ _ _ (T6.setTop (mkF m 22 #[.val (.ref a1), .val (.long v1_7), .second] [(.long ((v1_7.toUInt64 >>> ((30 : Int32) &&& 0x3f).toInt64.toUInt64).toInt64)), (.long v1_7)]))
  refine own_by (fun _ k => XS.lxor X6.here hx rfl (hb hby d3_22) rfl k) ?_
  show own_Go _ _ _ _ (T6.setTop (mkF m 23 #[.val (.ref a1), .val (.long v1_7), .second] [(.long (v1_7 ^^^ ((v1_7.toUInt64 >>> ((30 : Int32) &&& 0x3f).toInt64.toUInt64).toInt64)))]))
  refine own_by (fun _ k => X6.ldc2Long hx hown (mvT hZ (hw _ (List.mem_of_getElem? (i := 17) rfl))) (g := (mkF m 23 #[.val (.ref a1), .val (.long v1_7), .second] [(.long (v1_7 ^^^ ((v1_7.toUInt64 >>> ((30 : Int32) &&& 0x3f).toInt64.toUInt64).toInt64)))])) rfl (hb hby d3_23) _ k) ?_
  show own_Go _ _ _ _ (T6.setTop (mkF m 26 #[.val (.ref a1), .val (.long v1_7), .second] [(.long (-4658895280553007687 : Int64)), (.long (v1_7 ^^^ ((v1_7.toUInt64 >>> ((30 : Int32) &&& 0x3f).toInt64.toUInt64).toInt64)))]))
  refine own_by (fun _ k => XS.lmul X6.here hx rfl (hb hby d3_26) rfl k) ?_
  show own_Go _ _ _ _ (T6.setTop (mkF m 27 #[.val (.ref a1), .val (.long v1_7), .second] [(.long ((v1_7 ^^^ ((v1_7.toUInt64 >>> ((30 : Int32) &&& 0x3f).toInt64.toUInt64).toInt64)) * (-4658895280553007687 : Int64)))]))
  obtain ⟨v1_8, hv1_8⟩ : ∃ z_ : Int64, ((v1_7 ^^^ ((v1_7.toUInt64 >>> ((30 : Int32) &&& 0x3f).toInt64.toUInt64).toInt64)) * (-4658895280553007687 : Int64)) = z_ := ⟨_, rfl⟩
  refine own_gen hv1_8 (fun z_ => T6.setTop (mkF m 27 #[.val (.ref a1), .val (.long v1_7), .second] [(.long z_)])) ?_
  refine own_by (fun _ k => XS.lstoreN X6.here hx rfl (hb hby d3_27) rfl (l' := #[.val (.ref a1), .val (.long v1_8), .second]) rfl k) ?_
  show own_Go _ _ _ _ (T6.setTop (mkF m 28 #[.val (.ref a1), .val (.long v1_8), .second] []))
  refine own_by (fun _ k => XS.lloadN X6.here hx rfl (hb hby d3_28) rfl k) ?_
  show own_Go _ _ _ _ (T6.setTop (mkF m 29 #[.val (.ref a1), .val (.long v1_8), .second] [(.long v1_8)]))
  refine own_by (fun _ k => XS.lloadN X6.here hx rfl (hb hby d3_29) rfl k) ?_
  show own_Go _ _ _ _ (T6.setTop (mkF m 30 #[.val (.ref a1), .val (.long v1_8), .second] [(.long v1_8), (.long v1_8)]))
  refine own_by (fun _ k => XS.bipush X6.here hx rfl (hb hby d3_30) k) ?_
  show own_Go _ _ _ _ (T6.setTop (mkF m 32 #[.val (.ref a1), .val (.long v1_8), .second] [(.int (27 : Int32)), (.long v1_8), (.long v1_8)]))
  refine own_by (fun _ k => XS.lushr X6.here hx rfl (hb hby d3_32) rfl k) ?_
  show own_Go _ _ _ _ (T6.setTop (mkF m 33 #[.val (.ref a1), .val (.long v1_8), .second] [(.long ((v1_8.toUInt64 >>> ((27 : Int32) &&& 0x3f).toInt64.toUInt64).toInt64)), (.long v1_8)]))
  refine own_by (fun _ k => XS.lxor X6.here hx rfl (hb hby d3_33) rfl k) ?_
  show own_Go _ _ _ _ (T6.setTop (mkF m 34 #[.val (.ref a1), .val (.long v1_8), .second] [(.long (v1_8 ^^^ ((v1_8.toUInt64 >>> ((27 : Int32) &&& 0x3f).toInt64.toUInt64).toInt64)))]))
  refine own_by (fun _ k => X6.ldc2Long hx hown (mvT hZ (hw _ (List.mem_of_getElem? (i := 18) rfl))) (g := (mkF m 34 #[.val (.ref a1), .val (.long v1_8), .second] [(.long (v1_8 ^^^ ((v1_8.toUInt64 >>> ((27 : Int32) &&& 0x3f).toInt64.toUInt64).toInt64)))])) rfl (hb hby d3_34) _ k) ?_
  show own_Go _ _ _ _ (T6.setTop (mkF m 37 #[.val (.ref a1), .val (.long v1_8), .second] [(.long (-7723592293110705685 : Int64)), (.long (v1_8 ^^^ ((v1_8.toUInt64 >>> ((27 : Int32) &&& 0x3f).toInt64.toUInt64).toInt64)))]))
  refine own_by (fun _ k => XS.lmul X6.here hx rfl (hb hby d3_37) rfl k) ?_
  show own_Go _ _ _ _ (T6.setTop (mkF m 38 #[.val (.ref a1), .val (.long v1_8), .second] [(.long ((v1_8 ^^^ ((v1_8.toUInt64 >>> ((27 : Int32) &&& 0x3f).toInt64.toUInt64).toInt64)) * (-7723592293110705685 : Int64)))]))
  obtain ⟨v1_9, hv1_9⟩ : ∃ z_ : Int64, ((v1_8 ^^^ ((v1_8.toUInt64 >>> ((27 : Int32) &&& 0x3f).toInt64.toUInt64).toInt64)) * (-7723592293110705685 : Int64)) = z_ := ⟨_, rfl⟩
  refine own_gen hv1_9 (fun z_ => T6.setTop (mkF m 38 #[.val (.ref a1), .val (.long v1_8), .second] [(.long z_)])) ?_
  refine own_by (fun _ k => XS.lstoreN X6.here hx rfl (hb hby d3_38) rfl (l' := #[.val (.ref a1), .val (.long v1_9), .second]) rfl k) ?_
  show own_Go _ _ _ _ (T6.setTop (mkF m 39 #[.val (.ref a1), .val (.long v1_9), .second] []))
  refine own_by (fun _ k => XS.lloadN X6.here hx rfl (hb hby d3_39) rfl k) ?_
  show own_Go _ _ _ _ (T6.setTop (mkF m 40 #[.val (.ref a1), .val (.long v1_9), .second] [(.long v1_9)]))
  refine own_by (fun _ k => XS.lloadN X6.here hx rfl (hb hby d3_40) rfl k) ?_
  show own_Go _ _ _ _ (T6.setTop (mkF m 41 #[.val (.ref a1), .val (.long v1_9), .second] [(.long v1_9), (.long v1_9)]))
  refine own_by (fun _ k => XS.bipush X6.here hx rfl (hb hby d3_41) k) ?_
  show own_Go _ _ _ _ (T6.setTop (mkF m 43 #[.val (.ref a1), .val (.long v1_9), .second] [(.int (31 : Int32)), (.long v1_9), (.long v1_9)]))
  refine own_by (fun _ k => XS.lushr X6.here hx rfl (hb hby d3_43) rfl k) ?_
  show own_Go _ _ _ _ (T6.setTop (mkF m 44 #[.val (.ref a1), .val (.long v1_9), .second] [(.long ((v1_9.toUInt64 >>> ((31 : Int32) &&& 0x3f).toInt64.toUInt64).toInt64)), (.long v1_9)]))
  refine own_by (fun _ k => XS.lxor X6.here hx rfl (hb hby d3_44) rfl k) ?_
  show own_Go _ _ _ _ (T6.setTop (mkF m 45 #[.val (.ref a1), .val (.long v1_9), .second] [(.long (v1_9 ^^^ ((v1_9.toUInt64 >>> ((31 : Int32) &&& 0x3f).toInt64.toUInt64).toInt64)))]))
  exact own_retJ X6 hx Bd.notSynchronized e6 Bd.returns (hb hby d3_45) (⟨congrArg (fun z => some (Value.long z)) (own_hash1 _ _ _ _ hv1_7 hv1_8 hv1_9), N2, f5, f3⟩) (by decide) (by decide)
set_option maxRecDepth 65536 in
set_option maxHeartbeats 40000000 in
theorem rm0 (l : Launch) (Z : State) (a0 : Array Value) (hw : ∀ d ∈ tables_1, d.before a0 Z = true) (ws : List Jvm.Cond) (q1 : Int64) (q2 : Int64)  (h0 : Heap) (n0 : Nat) (Z0 : n0 ≤ h0.size) :
    MetFree l x (head1 (Jvm.Cond.code x code maxLocals ret :: ws) room_1) (fun a U => a = #[(.long q1), (.long q2)] ∧ Z.Warmed39 U.vm ∧ U.heap = h0) (fun _ _ _ _ _ => True) (fun _ U o U' => ∃ v L, o = .returned v ∧ own_ap (fun v h L => v = some (.int 1) ∧ Fr n0 L) v U'.heap L ∧ FrameEnd U o U' L 16 128) := by
  refine MetFree.of_bodySF (plainFor_of_name pn_0) hisR ?_
  intro p e s m args below meth c s₁ Bd hml0 hP hK
  obtain ⟨rfl, hZ, hh⟩ := hP
  have hx := Bd.exec
  have hby := Bd.bytes
  have hml : c.maxLocals = 19 := hml0
  have hown : s.vm.findClass "com/example/libmakespan/libmakespan/SplitMix64NextPinLaw" = some m.cls := findClass_of_methodNamed Bd.named
  have hnm := (name_of_methodNamed Bd.named Bd.method).1
  have X0 : Stand p l e room_1 s m #[(.long q1), (.long q2)] below meth c s₁ [] 0 0 := Stand.of_body Bd
  have e0 : s₁.heap = h0 := by rw [← hh, Bd.state]; rfl
  have N0 := Fr.nil n0
  show own_Go p.tables e below (own_Q s (fun v h L => v = some (.int 1) ∧ Fr n0 L) 16 128) (s₁.setTop (entryFrame m #[(.long q1), (.long q2)] maxLocals))
  rw [show entryFrame m #[(.long q1), (.long q2)] maxLocals = mkF m 0 #[.val (.long q1), .second, .val (.long q2), .second, .unset, .unset, .unset, .unset, .unset, .unset, .unset, .unset, .unset, .unset, .unset, .unset, .unset, .unset, .unset] [] from by first | (simp [entryFrame, mkF, argsToLocals, Value.category, maxLocals]; done) | rfl]
  show own_Go _ _ _ _ (s₁.setTop (mkF m 0 #[.val (.long q1), .second, .val (.long q2), .second, .unset, .unset, .unset, .unset, .unset, .unset, .unset, .unset, .unset, .unset, .unset, .unset, .unset, .unset, .unset] []))
  obtain ⟨T1, h1, X1, e1, E1, A1, D1, -, st1⟩ := newO X0 hx hZ hown (hw _ (List.mem_of_getElem? (i := 0) rfl)) (hw _ (List.mem_of_getElem? (i := 1) rfl)) (hw _ (List.mem_of_getElem? (i := 2) rfl)) e0 (g := (mkF m 0 #[.val (.long q1), .second, .val (.long q2), .second, .unset, .unset, .unset, .unset, .unset, .unset, .unset, .unset, .unset, .unset, .unset, .unset, .unset, .unset, .unset] [])) rfl (hb hby at_0) (by decide) (by decide)
  refine own_by st1 ?_
  show own_Go _ _ _ _ (T1.setTop (mkF m 3 #[.val (.long q1), .second, .val (.long q2), .second, .unset, .unset, .unset, .unset, .unset, .unset, .unset, .unset, .unset, .unset, .unset, .unset, .unset, .unset, .unset] [.ref h0.size]))
  obtain ⟨b1, g1⟩ : ∃ z, z = h0.size := ⟨_, rfl⟩
  rw [← g1] at A1 D1
  refine own_gen g1.symm (fun z_ => T1.setTop (mkF m 3 #[.val (.long q1), .second, .val (.long q2), .second, .unset, .unset, .unset, .unset, .unset, .unset, .unset, .unset, .unset, .unset, .unset, .unset, .unset, .unset, .unset] [.ref z_])) ?_
  have ge1 : n0 ≤ b1 := Nat.le_trans Z0 (Nat.le_of_eq g1.symm)
  have Z1 := Nat.le_trans Z0 E1.1
  have f2 : Fld Z h1 b1 "com/example/libmakespan/libmakespan/SplitMix64" "state" "J" (.long (0 : Int64)) := D1 (Or.inl (hw _ (List.mem_of_getElem? (i := 10) rfl))) (ty := .long) (by decide)
  show own_Go _ _ _ _ (T1.setTop (mkF m 3 #[.val (.long q1), .second, .val (.long q2), .second, .unset, .unset, .unset, .unset, .unset, .unset, .unset, .unset, .unset, .unset, .unset, .unset, .unset, .unset, .unset] [(.ref b1)]))
  refine own_by (fun _ k => XS.dup X1.here hx rfl (hb hby at_3) rfl rfl k) ?_
  show own_Go _ _ _ _ (T1.setTop (mkF m 4 #[.val (.long q1), .second, .val (.long q2), .second, .unset, .unset, .unset, .unset, .unset, .unset, .unset, .unset, .unset, .unset, .unset, .unset, .unset, .unset, .unset] [(.ref b1), (.ref b1)]))
  refine own_by (fun _ k => XS.lloadN X1.here hx rfl (hb hby at_4) rfl k) ?_
  show own_Go _ _ _ _ (T1.setTop (mkF m 5 #[.val (.long q1), .second, .val (.long q2), .second, .unset, .unset, .unset, .unset, .unset, .unset, .unset, .unset, .unset, .unset, .unset, .unset, .unset, .unset, .unset] [(.long q1), (.ref b1), (.ref b1)]))
  obtain ⟨_, _, ⟨T3, L3, k3, n3⟩, -, X3, ⟨Lc3, hQ3, l3, y3, z3⟩, st3⟩ := X1.specialBack hx (y := (⟨"com/example/libmakespan/libmakespan/SplitMix64", "<init>", "(J)V"⟩ : MethodName)) rfl hown (mvT hZ (hw _ (List.mem_of_getElem? (i := 3) rfl))) (mvT hZ (hw _ (List.mem_of_getElem? (i := 4) rfl))) (mvT hZ (hw _ (List.mem_of_getElem? (i := 5) rfl))) (by decide) (backOf (W := 1) (rm1 l Z a0 hw [] b1 q1 h1 n0 Z1 A1 f2 ge1) hZ (hw _ (List.mem_of_getElem? (i := 5) rfl)) (hw _ (List.mem_of_getElem? (i := 2) rfl)) (by decide) (by decide)) (g := (mkF m 5 #[.val (.long q1), .second, .val (.long q2), .second, .unset, .unset, .unset, .unset, .unset, .unset, .unset, .unset, .unset, .unset, .unset, .unset, .unset, .unset, .unset] [(.long q1), (.ref b1), (.ref b1)])) rfl (by rw [hml]; rfl) (Steps.refl _) (a := b1) (argsL := [(.long q1)]) (rest := [(.ref b1)]) (lenOf own_pd0 rfl) rfl (by show 2 * 0 + _ ≤ _; exact Nat.le_of_eq rfl) (hb hby at_5) (fun _ _ => ⟨rfl, e1, Nat.le_of_ble_eq_true rfl, Nat.le_of_ble_eq_true rfl⟩)
  dsimp only [Pt.U, Pt.locs, Pt.cells, Pt.slots] at X3 l3 y3 z3 st3 hQ3
  subst l3 y3 z3
  obtain ⟨h3, e3⟩ : ∃ h, T3.heap = h := ⟨_, rfl⟩
  rw [e3] at hQ3
  obtain ⟨rfl, N3q, K3, F3⟩ := hQ3
  have N3 := Fr.app N0 N3q
  refine own_tr st3 ?_
  have f4 := A1.keep K3
  have Z3 := Nat.le_trans Z1 K3.1
  show own_Go _ _ _ _ (T3.setTop (mkF m 8 #[.val (.long q1), .second, .val (.long q2), .second, .unset, .unset, .unset, .unset, .unset, .unset, .unset, .unset, .unset, .unset, .unset, .unset, .unset, .unset, .unset] [(.ref b1)]))
  refine own_by (fun _ k => XS.astore X3.here hx rfl (hb hby at_8) rfl rfl (l' := #[.val (.long q1), .second, .val (.long q2), .second, .val (.ref b1), .unset, .unset, .unset, .unset, .unset, .unset, .unset, .unset, .unset, .unset, .unset, .unset, .unset, .unset]) rfl k) ?_
  show own_Go _ _ _ _ (T3.setTop (mkF m 10 #[.val (.long q1), .second, .val (.long q2), .second, .val (.ref b1), .unset, .unset, .unset, .unset, .unset, .unset, .unset, .unset, .unset, .unset, .unset, .unset, .unset, .unset] []))
  refine own_by (fun _ k => XS.aload X3.here hx rfl (hb hby at_10) rfl rfl k) ?_
  show own_Go _ _ _ _ (T3.setTop (mkF m 12 #[.val (.long q1), .second, .val (.long q2), .second, .val (.ref b1), .unset, .unset, .unset, .unset, .unset, .unset, .unset, .unset, .unset, .unset, .unset, .unset, .unset, .unset] [(.ref b1)]))
  obtain ⟨cq6, kq6, q6a, q6b, q6c⟩ := isOf hZ e3 f4
  obtain ⟨_, _, ⟨T6, L6, k6, n6⟩, -, X6, ⟨Lc6, hQ6, l6, y6, z6⟩, st6⟩ := X3.virtualBack hx (y := (⟨"com/example/libmakespan/libmakespan/SplitMix64", "next", "()J"⟩ : MethodName)) (z := (⟨"com/example/libmakespan/libmakespan/SplitMix64", "next", "()J"⟩ : MethodName)) hown (mvT hZ (hw _ (List.mem_of_getElem? (i := 11) rfl))) (mvT hZ (hw _ (List.mem_of_getElem? (i := 12) rfl))) (notFace_of_selects (args := #[]) (mvT hZ (hw _ (List.mem_of_getElem? (i := 14) rfl)))) (mvT hZ (hw _ (List.mem_of_getElem? (i := 14) rfl))) (mvT hZ (hw _ (List.mem_of_getElem? (i := 13) rfl))) (by decide) (backOf (W := 0) (rm3 l Z a0 hw [] b1 q1 h3 n0 Z3 f4 F3 ge1) hZ (hw _ (List.mem_of_getElem? (i := 15) rfl)) (hw _ (List.mem_of_getElem? (i := 2) rfl)) (by decide) (by decide)) q6a q6c (g := (mkF m 12 #[.val (.long q1), .second, .val (.long q2), .second, .val (.ref b1), .unset, .unset, .unset, .unset, .unset, .unset, .unset, .unset, .unset, .unset, .unset, .unset, .unset, .unset] [(.ref b1)])) rfl (by rw [hml]; rfl) (Steps.refl _) (argsL := []) (rest := []) (lenOf own_pd1 rfl) rfl (by show 2 * 0 + _ ≤ _; exact Nat.le_of_eq rfl) (hb hby at_12) (fun _ _ => ⟨rfl, e3, Nat.le_of_ble_eq_true rfl, Nat.le_of_ble_eq_true rfl⟩)
  dsimp only [Pt.U, Pt.locs, Pt.cells, Pt.slots] at X6 l6 y6 z6 st6 hQ6
  subst l6 y6 z6
  obtain ⟨h6, e6⟩ : ∃ h, T6.heap = h := ⟨_, rfl⟩
  rw [e6] at hQ6
  obtain ⟨rfl, N6q, K6, F6⟩ := hQ6
  have N6 := Fr.app N3 N6q
  refine own_tr st6 ?_
  have f7 := f4.keep K6
  have Z6 := Nat.le_trans Z3 K6.1
  show own_Go _ _ _ _ (T6.setTop (mkF m 15 #[.val (.long q1), .second, .val (.long q2), .second, .val (.ref b1), .unset, .unset, .unset, .unset, .unset, .unset, .unset, .unset, .unset, .unset, .unset, .unset, .unset, .unset] [(.long (own_mix (q1 + (-7046029254386353131 : Int64))))]))
  obtain ⟨v5_9, hv5_9⟩ : ∃ z_ : Int64, (own_mix (q1 + (-7046029254386353131 : Int64))) = z_ := ⟨_, rfl⟩
  refine own_gen hv5_9 (fun z_ => T6.setTop (mkF m 15 #[.val (.long q1), .second, .val (.long q2), .second, .val (.ref b1), .unset, .unset, .unset, .unset, .unset, .unset, .unset, .unset, .unset, .unset, .unset, .unset, .unset, .unset] [(.long z_)])) ?_
  refine own_by (fun _ k => XS.lstore X6.here hx rfl (hb hby at_15) rfl (l' := #[.val (.long q1), .second, .val (.long q2), .second, .val (.ref b1), .val (.long v5_9), .second, .unset, .unset, .unset, .unset, .unset, .unset, .unset, .unset, .unset, .unset, .unset, .unset]) rfl k) ?_
  show own_Go _ _ _ _ (T6.setTop (mkF m 17 #[.val (.long q1), .second, .val (.long q2), .second, .val (.ref b1), .val (.long v5_9), .second, .unset, .unset, .unset, .unset, .unset, .unset, .unset, .unset, .unset, .unset, .unset, .unset] []))
  refine own_by (fun _ k => XS.aload X6.here hx rfl (hb hby at_17) rfl rfl k) ?_
  show own_Go _ _ _ _ (T6.setTop (mkF m 19 #[.val (.long q1), .second, .val (.long q2), .second, .val (.ref b1), .val (.long v5_9), .second, .unset, .unset, .unset, .unset, .unset, .unset, .unset, .unset, .unset, .unset, .unset, .unset] [(.ref b1)]))
  obtain ⟨cq10, kq10, q10a, q10b, q10c⟩ := isOf hZ e6 f7
  obtain ⟨_, _, ⟨T10, L10, k10, n10⟩, -, X10, ⟨Lc10, hQ10, l10, y10, z10⟩, st10⟩ := X6.virtualBack hx (y := (⟨"com/example/libmakespan/libmakespan/SplitMix64", "next", "()J"⟩ : MethodName)) (z := (⟨"com/example/libmakespan/libmakespan/SplitMix64", "next", "()J"⟩ : MethodName)) hown (mvT hZ (hw _ (List.mem_of_getElem? (i := 11) rfl))) (mvT hZ (hw _ (List.mem_of_getElem? (i := 12) rfl))) (notFace_of_selects (args := #[]) (mvT hZ (hw _ (List.mem_of_getElem? (i := 14) rfl)))) (mvT hZ (hw _ (List.mem_of_getElem? (i := 14) rfl))) (mvT hZ (hw _ (List.mem_of_getElem? (i := 13) rfl))) (by decide) (backOf (W := 0) (rm3 l Z a0 hw [] b1 (q1 + (-7046029254386353131 : Int64)) h6 n0 Z6 f7 F6 ge1) hZ (hw _ (List.mem_of_getElem? (i := 15) rfl)) (hw _ (List.mem_of_getElem? (i := 2) rfl)) (by decide) (by decide)) q10a q10c (g := (mkF m 19 #[.val (.long q1), .second, .val (.long q2), .second, .val (.ref b1), .val (.long v5_9), .second, .unset, .unset, .unset, .unset, .unset, .unset, .unset, .unset, .unset, .unset, .unset, .unset] [(.ref b1)])) rfl (by rw [hml]; rfl) (Steps.refl _) (argsL := []) (rest := []) (lenOf own_pd1 rfl) rfl (by show 2 * 0 + _ ≤ _; exact Nat.le_of_eq rfl) (hb hby at_19) (fun _ _ => ⟨rfl, e6, Nat.le_of_ble_eq_true rfl, Nat.le_of_ble_eq_true rfl⟩)
  dsimp only [Pt.U, Pt.locs, Pt.cells, Pt.slots] at X10 l10 y10 z10 st10 hQ10
  subst l10 y10 z10
  obtain ⟨h10, e10⟩ : ∃ h, T10.heap = h := ⟨_, rfl⟩
  rw [e10] at hQ10
  obtain ⟨rfl, N10q, K10, F10⟩ := hQ10
  have N10 := Fr.app N6 N10q
  refine own_tr st10 ?_
  have f11 := f7.keep K10
  have Z10 := Nat.le_trans Z6 K10.1
  show own_Go _ _ _ _ (T10.setTop (mkF m 22 #[.val (.long q1), .second, .val (.long q2), .second, .val (.ref b1), .val (.long v5_9), .second, .unset, .unset, .unset, .unset, .unset, .unset, .unset, .unset, .unset, .unset, .unset, .unset] [(.long (own_mix ((q1 + (-7046029254386353131 : Int64)) + (-7046029254386353131 : Int64))))]))
  obtain ⟨v7_13, hv7_13⟩ : ∃ z_ : Int64, (own_mix ((q1 + (-7046029254386353131 : Int64)) + (-7046029254386353131 : Int64))) = z_ := ⟨_, rfl⟩
  refine own_gen hv7_13 (fun z_ => T10.setTop (mkF m 22 #[.val (.long q1), .second, .val (.long q2), .second, .val (.ref b1), .val (.long v5_9), .second, .unset, .unset, .unset, .unset, .unset, .unset, .unset, .unset, .unset, .unset, .unset, .unset] [(.long z_)])) ?_
  refine own_by (fun _ k => XS.lstore X10.here hx rfl (hb hby at_22) rfl (l' := #[.val (.long q1), .second, .val (.long q2), .second, .val (.ref b1), .val (.long v5_9), .second, .val (.long v7_13), .second, .unset, .unset, .unset, .unset, .unset, .unset, .unset, .unset, .unset, .unset]) rfl k) ?_
  show own_Go _ _ _ _ (T10.setTop (mkF m 24 #[.val (.long q1), .second, .val (.long q2), .second, .val (.ref b1), .val (.long v5_9), .second, .val (.long v7_13), .second, .unset, .unset, .unset, .unset, .unset, .unset, .unset, .unset, .unset, .unset] []))
  obtain ⟨T14, h14, X14, e14, E14, A14, D14, -, st14⟩ := newO X10 hx hZ hown (hw _ (List.mem_of_getElem? (i := 0) rfl)) (hw _ (List.mem_of_getElem? (i := 1) rfl)) (hw _ (List.mem_of_getElem? (i := 2) rfl)) e10 (g := (mkF m 24 #[.val (.long q1), .second, .val (.long q2), .second, .val (.ref b1), .val (.long v5_9), .second, .val (.long v7_13), .second, .unset, .unset, .unset, .unset, .unset, .unset, .unset, .unset, .unset, .unset] [])) rfl (hb hby at_24) (by decide) (by decide)
  refine own_by st14 ?_
  show own_Go _ _ _ _ (T14.setTop (mkF m 27 #[.val (.long q1), .second, .val (.long q2), .second, .val (.ref b1), .val (.long v5_9), .second, .val (.long v7_13), .second, .unset, .unset, .unset, .unset, .unset, .unset, .unset, .unset, .unset, .unset] [.ref h10.size]))
  obtain ⟨b14, g14⟩ : ∃ z, z = h10.size := ⟨_, rfl⟩
  rw [← g14] at A14 D14
  refine own_gen g14.symm (fun z_ => T14.setTop (mkF m 27 #[.val (.long q1), .second, .val (.long q2), .second, .val (.ref b1), .val (.long v5_9), .second, .val (.long v7_13), .second, .unset, .unset, .unset, .unset, .unset, .unset, .unset, .unset, .unset, .unset] [.ref z_])) ?_
  have ne15 : b1 ≠ b14 := Nat.ne_of_lt (Nat.lt_of_lt_of_le f11.lt (Nat.le_of_eq g14.symm))
  have ge14 : n0 ≤ b14 := Nat.le_trans Z10 (Nat.le_of_eq g14.symm)
  have f16 := f11.ext E14
  have f17 := F10.ext E14
  have Z14 := Nat.le_trans Z10 E14.1
  have f18 : Fld Z h14 b14 "com/example/libmakespan/libmakespan/SplitMix64" "state" "J" (.long (0 : Int64)) := D14 (Or.inl (hw _ (List.mem_of_getElem? (i := 10) rfl))) (ty := .long) (by decide)
  show own_Go _ _ _ _ (T14.setTop (mkF m 27 #[.val (.long q1), .second, .val (.long q2), .second, .val (.ref b1), .val (.long v5_9), .second, .val (.long v7_13), .second, .unset, .unset, .unset, .unset, .unset, .unset, .unset, .unset, .unset, .unset] [(.ref b14)]))
  refine own_by (fun _ k => XS.dup X14.here hx rfl (hb hby at_27) rfl rfl k) ?_
  show own_Go _ _ _ _ (T14.setTop (mkF m 28 #[.val (.long q1), .second, .val (.long q2), .second, .val (.ref b1), .val (.long v5_9), .second, .val (.long v7_13), .second, .unset, .unset, .unset, .unset, .unset, .unset, .unset, .unset, .unset, .unset] [(.ref b14), (.ref b14)]))
  refine own_by (fun _ k => XS.lloadN X14.here hx rfl (hb hby at_28) rfl k) ?_
  show own_Go _ _ _ _ (T14.setTop (mkF m 29 #[.val (.long q1), .second, .val (.long q2), .second, .val (.ref b1), .val (.long v5_9), .second, .val (.long v7_13), .second, .unset, .unset, .unset, .unset, .unset, .unset, .unset, .unset, .unset, .unset] [(.long q1), (.ref b14), (.ref b14)]))
  refine own_by (fun _ k => X14.ldc2Long hx hown (mvT hZ (hw _ (List.mem_of_getElem? (i := 19) rfl))) (g := (mkF m 29 #[.val (.long q1), .second, .val (.long q2), .second, .val (.ref b1), .val (.long v5_9), .second, .val (.long v7_13), .second, .unset, .unset, .unset, .unset, .unset, .unset, .unset, .unset, .unset, .unset] [(.long q1), (.ref b14), (.ref b14)])) rfl (hb hby at_29) _ k) ?_
  show own_Go _ _ _ _ (T14.setTop (mkF m 32 #[.val (.long q1), .second, .val (.long q2), .second, .val (.ref b1), .val (.long v5_9), .second, .val (.long v7_13), .second, .unset, .unset, .unset, .unset, .unset, .unset, .unset, .unset, .unset, .unset] [(.long (-7046029254386353131 : Int64)), (.long q1), (.ref b14), (.ref b14)]))
  refine own_by (fun _ k => XS.ladd X14.here hx rfl (hb hby at_32) rfl k) ?_
  show own_Go _ _ _ _ (T14.setTop (mkF m 33 #[.val (.long q1), .second, .val (.long q2), .second, .val (.ref b1), .val (.long v5_9), .second, .val (.long v7_13), .second, .unset, .unset, .unset, .unset, .unset, .unset, .unset, .unset, .unset, .unset] [(.long (q1 + (-7046029254386353131 : Int64))), (.ref b14), (.ref b14)]))
  obtain ⟨_, _, ⟨T19, L19, k19, n19⟩, -, X19, ⟨Lc19, hQ19, l19, y19, z19⟩, st19⟩ := X14.specialBack hx (y := (⟨"com/example/libmakespan/libmakespan/SplitMix64", "<init>", "(J)V"⟩ : MethodName)) rfl hown (mvT hZ (hw _ (List.mem_of_getElem? (i := 3) rfl))) (mvT hZ (hw _ (List.mem_of_getElem? (i := 4) rfl))) (mvT hZ (hw _ (List.mem_of_getElem? (i := 5) rfl))) (by decide) (backOf (W := 1) (rm1 l Z a0 hw [] b14 (q1 + (-7046029254386353131 : Int64)) h14 n0 Z14 A14 f18 ge14) hZ (hw _ (List.mem_of_getElem? (i := 5) rfl)) (hw _ (List.mem_of_getElem? (i := 2) rfl)) (by decide) (by decide)) (g := (mkF m 33 #[.val (.long q1), .second, .val (.long q2), .second, .val (.ref b1), .val (.long v5_9), .second, .val (.long v7_13), .second, .unset, .unset, .unset, .unset, .unset, .unset, .unset, .unset, .unset, .unset] [(.long (q1 + (-7046029254386353131 : Int64))), (.ref b14), (.ref b14)])) rfl (by rw [hml]; rfl) (Steps.refl _) (a := b14) (argsL := [(.long (q1 + (-7046029254386353131 : Int64)))]) (rest := [(.ref b14)]) (lenOf own_pd0 rfl) rfl (by show 2 * 0 + _ ≤ _; exact Nat.le_of_eq rfl) (hb hby at_33) (fun _ _ => ⟨rfl, e14, Nat.le_of_ble_eq_true rfl, Nat.le_of_ble_eq_true rfl⟩)
  dsimp only [Pt.U, Pt.locs, Pt.cells, Pt.slots] at X19 l19 y19 z19 st19 hQ19
  subst l19 y19 z19
  obtain ⟨h19, e19⟩ : ∃ h, T19.heap = h := ⟨_, rfl⟩
  rw [e19] at hQ19
  obtain ⟨rfl, N19q, K19, F19⟩ := hQ19
  have N19 := Fr.app N10 N19q
  refine own_tr st19 ?_
  have f20 := f16.keep K19
  have f21 := f17.keep K19 (ninS ne15 nin0)
  have f22 := A14.keep K19
  have Z19 := Nat.le_trans Z14 K19.1
  show own_Go _ _ _ _ (T19.setTop (mkF m 36 #[.val (.long q1), .second, .val (.long q2), .second, .val (.ref b1), .val (.long v5_9), .second, .val (.long v7_13), .second, .unset, .unset, .unset, .unset, .unset, .unset, .unset, .unset, .unset, .unset] [(.ref b14)]))
  refine own_by (fun _ k => XS.astore X19.here hx rfl (hb hby at_36) rfl rfl (l' := #[.val (.long q1), .second, .val (.long q2), .second, .val (.ref b1), .val (.long v5_9), .second, .val (.long v7_13), .second, .val (.ref b14), .unset, .unset, .unset, .unset, .unset, .unset, .unset, .unset, .unset]) rfl k) ?_
  show own_Go _ _ _ _ (T19.setTop (mkF m 38 #[.val (.long q1), .second, .val (.long q2), .second, .val (.ref b1), .val (.long v5_9), .second, .val (.long v7_13), .second, .val (.ref b14), .unset, .unset, .unset, .unset, .unset, .unset, .unset, .unset, .unset] []))
  refine own_by (fun _ k => XS.aload X19.here hx rfl (hb hby at_38) rfl rfl k) ?_
  show own_Go _ _ _ _ (T19.setTop (mkF m 40 #[.val (.long q1), .second, .val (.long q2), .second, .val (.ref b1), .val (.long v5_9), .second, .val (.long v7_13), .second, .val (.ref b14), .unset, .unset, .unset, .unset, .unset, .unset, .unset, .unset, .unset] [(.ref b14)]))
  obtain ⟨cq24, kq24, q24a, q24b, q24c⟩ := isOf hZ e19 f22
  obtain ⟨_, _, ⟨T24, L24, k24, n24⟩, -, X24, ⟨Lc24, hQ24, l24, y24, z24⟩, st24⟩ := X19.virtualBack hx (y := (⟨"com/example/libmakespan/libmakespan/SplitMix64", "next", "()J"⟩ : MethodName)) (z := (⟨"com/example/libmakespan/libmakespan/SplitMix64", "next", "()J"⟩ : MethodName)) hown (mvT hZ (hw _ (List.mem_of_getElem? (i := 11) rfl))) (mvT hZ (hw _ (List.mem_of_getElem? (i := 12) rfl))) (notFace_of_selects (args := #[]) (mvT hZ (hw _ (List.mem_of_getElem? (i := 14) rfl)))) (mvT hZ (hw _ (List.mem_of_getElem? (i := 14) rfl))) (mvT hZ (hw _ (List.mem_of_getElem? (i := 13) rfl))) (by decide) (backOf (W := 0) (rm3 l Z a0 hw [] b14 (q1 + (-7046029254386353131 : Int64)) h19 n0 Z19 f22 F19 ge14) hZ (hw _ (List.mem_of_getElem? (i := 15) rfl)) (hw _ (List.mem_of_getElem? (i := 2) rfl)) (by decide) (by decide)) q24a q24c (g := (mkF m 40 #[.val (.long q1), .second, .val (.long q2), .second, .val (.ref b1), .val (.long v5_9), .second, .val (.long v7_13), .second, .val (.ref b14), .unset, .unset, .unset, .unset, .unset, .unset, .unset, .unset, .unset] [(.ref b14)])) rfl (by rw [hml]; rfl) (Steps.refl _) (argsL := []) (rest := []) (lenOf own_pd1 rfl) rfl (by show 2 * 0 + _ ≤ _; exact Nat.le_of_eq rfl) (hb hby at_40) (fun _ _ => ⟨rfl, e19, Nat.le_of_ble_eq_true rfl, Nat.le_of_ble_eq_true rfl⟩)
  dsimp only [Pt.U, Pt.locs, Pt.cells, Pt.slots] at X24 l24 y24 z24 st24 hQ24
  subst l24 y24 z24
  obtain ⟨h24, e24⟩ : ∃ h, T24.heap = h := ⟨_, rfl⟩
  rw [e24] at hQ24
  obtain ⟨rfl, N24q, K24, F24⟩ := hQ24
  have N24 := Fr.app N19 N24q
  refine own_tr st24 ?_
  have f25 := f20.keep K24
  have f26 := f21.keep K24 (ninS ne15 nin0)
  have f27 := f22.keep K24
  have Z24 := Nat.le_trans Z19 K24.1
  show own_Go _ _ _ _ (T24.setTop (mkF m 43 #[.val (.long q1), .second, .val (.long q2), .second, .val (.ref b1), .val (.long v5_9), .second, .val (.long v7_13), .second, .val (.ref b14), .unset, .unset, .unset, .unset, .unset, .unset, .unset, .unset, .unset] [(.long (own_mix ((q1 + (-7046029254386353131 : Int64)) + (-7046029254386353131 : Int64))))]))
  obtain ⟨v10_29, hv10_29⟩ : ∃ z_ : Int64, (own_mix ((q1 + (-7046029254386353131 : Int64)) + (-7046029254386353131 : Int64))) = z_ := ⟨_, rfl⟩
  refine own_gen hv10_29 (fun z_ => T24.setTop (mkF m 43 #[.val (.long q1), .second, .val (.long q2), .second, .val (.ref b1), .val (.long v5_9), .second, .val (.long v7_13), .second, .val (.ref b14), .unset, .unset, .unset, .unset, .unset, .unset, .unset, .unset, .unset] [(.long z_)])) ?_
  refine own_by (fun _ k => XS.lstore X24.here hx rfl (hb hby at_43) rfl (l' := #[.val (.long q1), .second, .val (.long q2), .second, .val (.ref b1), .val (.long v5_9), .second, .val (.long v7_13), .second, .val (.ref b14), .val (.long v10_29), .second, .unset, .unset, .unset, .unset, .unset, .unset, .unset]) rfl k) ?_
  show own_Go _ _ _ _ (T24.setTop (mkF m 45 #[.val (.long q1), .second, .val (.long q2), .second, .val (.ref b1), .val (.long v5_9), .second, .val (.long v7_13), .second, .val (.ref b14), .val (.long v10_29), .second, .unset, .unset, .unset, .unset, .unset, .unset, .unset] []))
  refine own_by (fun _ k => XS.lload X24.here hx rfl (hb hby at_45) rfl k) ?_
  show own_Go _ _ _ _ (T24.setTop (mkF m 47 #[.val (.long q1), .second, .val (.long q2), .second, .val (.ref b1), .val (.long v5_9), .second, .val (.long v7_13), .second, .val (.ref b14), .val (.long v10_29), .second, .unset, .unset, .unset, .unset, .unset, .unset, .unset] [(.long v7_13)]))
  refine own_by (fun _ k => XS.lload X24.here hx rfl (hb hby at_47) rfl k) ?_
  show own_Go _ _ _ _ (T24.setTop (mkF m 49 #[.val (.long q1), .second, .val (.long q2), .second, .val (.ref b1), .val (.long v5_9), .second, .val (.long v7_13), .second, .val (.ref b14), .val (.long v10_29), .second, .unset, .unset, .unset, .unset, .unset, .unset, .unset] [(.long v10_29), (.long v7_13)]))
  refine own_by (fun _ k => XS.lcmp X24.here hx rfl (hb hby at_49) rfl k) ?_
  show own_Go _ _ _ _ (T24.setTop (mkF m 50 #[.val (.long q1), .second, .val (.long q2), .second, .val (.ref b1), .val (.long v5_9), .second, .val (.long v7_13), .second, .val (.ref b14), .val (.long v10_29), .second, .unset, .unset, .unset, .unset, .unset, .unset, .unset] [(.int (lcmpW v7_13 v10_29))]))
  refine own_by (fun _ k => XS.ifNo X24.here hx rfl (hb hby at_50) rfl ((if0 _ _).trans (teq ((lw_eq _ _).mpr (hv7_13.symm.trans hv10_29))).2) k) ?_
  show own_Go _ _ _ _ (T24.setTop (mkF m 53 #[.val (.long q1), .second, .val (.long q2), .second, .val (.ref b1), .val (.long v5_9), .second, .val (.long v7_13), .second, .val (.ref b14), .val (.long v10_29), .second, .unset, .unset, .unset, .unset, .unset, .unset, .unset] []))
  refine own_by (fun _ k => XS.iconst X24.here hx rfl (hb hby at_53) k) ?_
  show own_Go _ _ _ _ (T24.setTop (mkF m 54 #[.val (.long q1), .second, .val (.long q2), .second, .val (.ref b1), .val (.long v5_9), .second, .val (.long v7_13), .second, .val (.ref b14), .val (.long v10_29), .second, .unset, .unset, .unset, .unset, .unset, .unset, .unset] [(.int (1 : Int32))]))
  refine own_by (fun _ k => XS.goto X24.here hx rfl (pc0 := 54) (pc' := 58) rfl (hb hby at_54) (by decide) (by decide) k) ?_
  show own_Go _ _ _ _ (T24.setTop (mkF m 58 #[.val (.long q1), .second, .val (.long q2), .second, .val (.ref b1), .val (.long v5_9), .second, .val (.long v7_13), .second, .val (.ref b14), .val (.long v10_29), .second, .unset, .unset, .unset, .unset, .unset, .unset, .unset] [(.int (1 : Int32))]))
  refine own_by (fun _ k => XS.istore X24.here hx rfl (hb hby at_58) rfl (l' := #[.val (.long q1), .second, .val (.long q2), .second, .val (.ref b1), .val (.long v5_9), .second, .val (.long v7_13), .second, .val (.ref b14), .val (.long v10_29), .second, .val (.int (1 : Int32)), .unset, .unset, .unset, .unset, .unset, .unset]) rfl k) ?_
  show own_Go _ _ _ _ (T24.setTop (mkF m 60 #[.val (.long q1), .second, .val (.long q2), .second, .val (.ref b1), .val (.long v5_9), .second, .val (.long v7_13), .second, .val (.ref b14), .val (.long v10_29), .second, .val (.int (1 : Int32)), .unset, .unset, .unset, .unset, .unset, .unset] []))
  obtain ⟨T30, h30, X30, e30, E30, A30, D30, -, st30⟩ := newO X24 hx hZ hown (hw _ (List.mem_of_getElem? (i := 0) rfl)) (hw _ (List.mem_of_getElem? (i := 1) rfl)) (hw _ (List.mem_of_getElem? (i := 2) rfl)) e24 (g := (mkF m 60 #[.val (.long q1), .second, .val (.long q2), .second, .val (.ref b1), .val (.long v5_9), .second, .val (.long v7_13), .second, .val (.ref b14), .val (.long v10_29), .second, .val (.int (1 : Int32)), .unset, .unset, .unset, .unset, .unset, .unset] [])) rfl (hb hby at_60) (by decide) (by decide)
  refine own_by st30 ?_
  show own_Go _ _ _ _ (T30.setTop (mkF m 63 #[.val (.long q1), .second, .val (.long q2), .second, .val (.ref b1), .val (.long v5_9), .second, .val (.long v7_13), .second, .val (.ref b14), .val (.long v10_29), .second, .val (.int (1 : Int32)), .unset, .unset, .unset, .unset, .unset, .unset] [.ref h24.size]))
  obtain ⟨b30, g30⟩ : ∃ z, z = h24.size := ⟨_, rfl⟩
  rw [← g30] at A30 D30
  refine own_gen g30.symm (fun z_ => T30.setTop (mkF m 63 #[.val (.long q1), .second, .val (.long q2), .second, .val (.ref b1), .val (.long v5_9), .second, .val (.long v7_13), .second, .val (.ref b14), .val (.long v10_29), .second, .val (.int (1 : Int32)), .unset, .unset, .unset, .unset, .unset, .unset] [.ref z_])) ?_
  have ne31 : b1 ≠ b30 := Nat.ne_of_lt (Nat.lt_of_lt_of_le f25.lt (Nat.le_of_eq g30.symm))
  have ne32 : b14 ≠ b30 := Nat.ne_of_lt (Nat.lt_of_lt_of_le f27.lt (Nat.le_of_eq g30.symm))
  have ge30 : n0 ≤ b30 := Nat.le_trans Z24 (Nat.le_of_eq g30.symm)
  have f33 := f25.ext E30
  have f34 := f26.ext E30
  have f35 := f27.ext E30
  have f36 := F24.ext E30
  have Z30 := Nat.le_trans Z24 E30.1
  have f37 : Fld Z h30 b30 "com/example/libmakespan/libmakespan/SplitMix64" "state" "J" (.long (0 : Int64)) := D30 (Or.inl (hw _ (List.mem_of_getElem? (i := 10) rfl))) (ty := .long) (by decide)
  show own_Go _ _ _ _ (T30.setTop (mkF m 63 #[.val (.long q1), .second, .val (.long q2), .second, .val (.ref b1), .val (.long v5_9), .second, .val (.long v7_13), .second, .val (.ref b14), .val (.long v10_29), .second, .val (.int (1 : Int32)), .unset, .unset, .unset, .unset, .unset, .unset] [(.ref b30)]))
  refine own_by (fun _ k => XS.dup X30.here hx rfl (hb hby at_63) rfl rfl k) ?_
  show own_Go _ _ _ _ (T30.setTop (mkF m 64 #[.val (.long q1), .second, .val (.long q2), .second, .val (.ref b1), .val (.long v5_9), .second, .val (.long v7_13), .second, .val (.ref b14), .val (.long v10_29), .second, .val (.int (1 : Int32)), .unset, .unset, .unset, .unset, .unset, .unset] [(.ref b30), (.ref b30)]))
  refine own_by (fun _ k => XS.lloadN X30.here hx rfl (hb hby at_64) rfl k) ?_
  show own_Go _ _ _ _ (T30.setTop (mkF m 65 #[.val (.long q1), .second, .val (.long q2), .second, .val (.ref b1), .val (.long v5_9), .second, .val (.long v7_13), .second, .val (.ref b14), .val (.long v10_29), .second, .val (.int (1 : Int32)), .unset, .unset, .unset, .unset, .unset, .unset] [(.long q2), (.ref b30), (.ref b30)]))
  obtain ⟨_, _, ⟨T38, L38, k38, n38⟩, -, X38, ⟨Lc38, hQ38, l38, y38, z38⟩, st38⟩ := X30.specialBack hx (y := (⟨"com/example/libmakespan/libmakespan/SplitMix64", "<init>", "(J)V"⟩ : MethodName)) rfl hown (mvT hZ (hw _ (List.mem_of_getElem? (i := 3) rfl))) (mvT hZ (hw _ (List.mem_of_getElem? (i := 4) rfl))) (mvT hZ (hw _ (List.mem_of_getElem? (i := 5) rfl))) (by decide) (backOf (W := 1) (rm1 l Z a0 hw [] b30 q2 h30 n0 Z30 A30 f37 ge30) hZ (hw _ (List.mem_of_getElem? (i := 5) rfl)) (hw _ (List.mem_of_getElem? (i := 2) rfl)) (by decide) (by decide)) (g := (mkF m 65 #[.val (.long q1), .second, .val (.long q2), .second, .val (.ref b1), .val (.long v5_9), .second, .val (.long v7_13), .second, .val (.ref b14), .val (.long v10_29), .second, .val (.int (1 : Int32)), .unset, .unset, .unset, .unset, .unset, .unset] [(.long q2), (.ref b30), (.ref b30)])) rfl (by rw [hml]; rfl) (Steps.refl _) (a := b30) (argsL := [(.long q2)]) (rest := [(.ref b30)]) (lenOf own_pd0 rfl) rfl (by show 2 * 0 + _ ≤ _; exact Nat.le_of_eq rfl) (hb hby at_65) (fun _ _ => ⟨rfl, e30, Nat.le_of_ble_eq_true rfl, Nat.le_of_ble_eq_true rfl⟩)
  dsimp only [Pt.U, Pt.locs, Pt.cells, Pt.slots] at X38 l38 y38 z38 st38 hQ38
  subst l38 y38 z38
  obtain ⟨h38, e38⟩ : ∃ h, T38.heap = h := ⟨_, rfl⟩
  rw [e38] at hQ38
  obtain ⟨rfl, N38q, K38, F38⟩ := hQ38
  have N38 := Fr.app N24 N38q
  refine own_tr st38 ?_
  have f39 := f33.keep K38
  have f40 := f34.keep K38 (ninS ne31 nin0)
  have f41 := f35.keep K38
  have f42 := f36.keep K38 (ninS ne32 nin0)
  have f43 := A30.keep K38
  have Z38 := Nat.le_trans Z30 K38.1
  show own_Go _ _ _ _ (T38.setTop (mkF m 68 #[.val (.long q1), .second, .val (.long q2), .second, .val (.ref b1), .val (.long v5_9), .second, .val (.long v7_13), .second, .val (.ref b14), .val (.long v10_29), .second, .val (.int (1 : Int32)), .unset, .unset, .unset, .unset, .unset, .unset] [(.ref b30)]))
  refine own_by (fun _ k => XS.astore X38.here hx rfl (hb hby at_68) rfl rfl (l' := #[.val (.long q1), .second, .val (.long q2), .second, .val (.ref b1), .val (.long v5_9), .second, .val (.long v7_13), .second, .val (.ref b14), .val (.long v10_29), .second, .val (.int (1 : Int32)), .val (.ref b30), .unset, .unset, .unset, .unset, .unset]) rfl k) ?_
  show own_Go _ _ _ _ (T38.setTop (mkF m 70 #[.val (.long q1), .second, .val (.long q2), .second, .val (.ref b1), .val (.long v5_9), .second, .val (.long v7_13), .second, .val (.ref b14), .val (.long v10_29), .second, .val (.int (1 : Int32)), .val (.ref b30), .unset, .unset, .unset, .unset, .unset] []))
  refine own_by (fun _ k => XS.aload X38.here hx rfl (hb hby at_70) rfl rfl k) ?_
  show own_Go _ _ _ _ (T38.setTop (mkF m 72 #[.val (.long q1), .second, .val (.long q2), .second, .val (.ref b1), .val (.long v5_9), .second, .val (.long v7_13), .second, .val (.ref b14), .val (.long v10_29), .second, .val (.int (1 : Int32)), .val (.ref b30), .unset, .unset, .unset, .unset, .unset] [(.ref b30)]))
  obtain ⟨cq45, kq45, q45a, q45b, q45c⟩ := isOf hZ e38 f43
  obtain ⟨_, _, ⟨T45, L45, k45, n45⟩, -, X45, ⟨Lc45, hQ45, l45, y45, z45⟩, st45⟩ := X38.virtualBack hx (y := (⟨"com/example/libmakespan/libmakespan/SplitMix64", "next", "()J"⟩ : MethodName)) (z := (⟨"com/example/libmakespan/libmakespan/SplitMix64", "next", "()J"⟩ : MethodName)) hown (mvT hZ (hw _ (List.mem_of_getElem? (i := 11) rfl))) (mvT hZ (hw _ (List.mem_of_getElem? (i := 12) rfl))) (notFace_of_selects (args := #[]) (mvT hZ (hw _ (List.mem_of_getElem? (i := 14) rfl)))) (mvT hZ (hw _ (List.mem_of_getElem? (i := 14) rfl))) (mvT hZ (hw _ (List.mem_of_getElem? (i := 13) rfl))) (by decide) (backOf (W := 0) (rm3 l Z a0 hw [] b30 q2 h38 n0 Z38 f43 F38 ge30) hZ (hw _ (List.mem_of_getElem? (i := 15) rfl)) (hw _ (List.mem_of_getElem? (i := 2) rfl)) (by decide) (by decide)) q45a q45c (g := (mkF m 72 #[.val (.long q1), .second, .val (.long q2), .second, .val (.ref b1), .val (.long v5_9), .second, .val (.long v7_13), .second, .val (.ref b14), .val (.long v10_29), .second, .val (.int (1 : Int32)), .val (.ref b30), .unset, .unset, .unset, .unset, .unset] [(.ref b30)])) rfl (by rw [hml]; rfl) (Steps.refl _) (argsL := []) (rest := []) (lenOf own_pd1 rfl) rfl (by show 2 * 0 + _ ≤ _; exact Nat.le_of_eq rfl) (hb hby at_72) (fun _ _ => ⟨rfl, e38, Nat.le_of_ble_eq_true rfl, Nat.le_of_ble_eq_true rfl⟩)
  dsimp only [Pt.U, Pt.locs, Pt.cells, Pt.slots] at X45 l45 y45 z45 st45 hQ45
  subst l45 y45 z45
  obtain ⟨h45, e45⟩ : ∃ h, T45.heap = h := ⟨_, rfl⟩
  rw [e45] at hQ45
  obtain ⟨rfl, N45q, K45, F45⟩ := hQ45
  have N45 := Fr.app N38 N45q
  refine own_tr st45 ?_
  have f46 := f39.keep K45
  have f47 := f40.keep K45 (ninS ne31 nin0)
  have f48 := f41.keep K45
  have f49 := f42.keep K45 (ninS ne32 nin0)
  have f50 := f43.keep K45
  have Z45 := Nat.le_trans Z38 K45.1
  show own_Go _ _ _ _ (T45.setTop (mkF m 75 #[.val (.long q1), .second, .val (.long q2), .second, .val (.ref b1), .val (.long v5_9), .second, .val (.long v7_13), .second, .val (.ref b14), .val (.long v10_29), .second, .val (.int (1 : Int32)), .val (.ref b30), .unset, .unset, .unset, .unset, .unset] [(.long (own_mix (q2 + (-7046029254386353131 : Int64))))]))
  obtain ⟨v14_52, hv14_52⟩ : ∃ z_ : Int64, (own_mix (q2 + (-7046029254386353131 : Int64))) = z_ := ⟨_, rfl⟩
  refine own_gen hv14_52 (fun z_ => T45.setTop (mkF m 75 #[.val (.long q1), .second, .val (.long q2), .second, .val (.ref b1), .val (.long v5_9), .second, .val (.long v7_13), .second, .val (.ref b14), .val (.long v10_29), .second, .val (.int (1 : Int32)), .val (.ref b30), .unset, .unset, .unset, .unset, .unset] [(.long z_)])) ?_
  refine own_by (fun _ k => XS.lstore X45.here hx rfl (hb hby at_75) rfl (l' := #[.val (.long q1), .second, .val (.long q2), .second, .val (.ref b1), .val (.long v5_9), .second, .val (.long v7_13), .second, .val (.ref b14), .val (.long v10_29), .second, .val (.int (1 : Int32)), .val (.ref b30), .val (.long v14_52), .second, .unset, .unset, .unset]) rfl k) ?_
  show own_Go _ _ _ _ (T45.setTop (mkF m 77 #[.val (.long q1), .second, .val (.long q2), .second, .val (.ref b1), .val (.long v5_9), .second, .val (.long v7_13), .second, .val (.ref b14), .val (.long v10_29), .second, .val (.int (1 : Int32)), .val (.ref b30), .val (.long v14_52), .second, .unset, .unset, .unset] []))
  refine own_by (fun _ k => XS.lload X45.here hx rfl (hb hby at_77) rfl k) ?_
  show own_Go _ _ _ _ (T45.setTop (mkF m 79 #[.val (.long q1), .second, .val (.long q2), .second, .val (.ref b1), .val (.long v5_9), .second, .val (.long v7_13), .second, .val (.ref b14), .val (.long v10_29), .second, .val (.int (1 : Int32)), .val (.ref b30), .val (.long v14_52), .second, .unset, .unset, .unset] [(.long v14_52)]))
  refine own_by (fun _ k => XS.lload X45.here hx rfl (hb hby at_79) rfl k) ?_
  show own_Go _ _ _ _ (T45.setTop (mkF m 81 #[.val (.long q1), .second, .val (.long q2), .second, .val (.ref b1), .val (.long v5_9), .second, .val (.long v7_13), .second, .val (.ref b14), .val (.long v10_29), .second, .val (.int (1 : Int32)), .val (.ref b30), .val (.long v14_52), .second, .unset, .unset, .unset] [(.long v5_9), (.long v14_52)]))
  refine own_by (fun _ k => XS.lcmp X45.here hx rfl (hb hby at_81) rfl k) ?_
  show own_Go _ _ _ _ (T45.setTop (mkF m 82 #[.val (.long q1), .second, .val (.long q2), .second, .val (.ref b1), .val (.long v5_9), .second, .val (.long v7_13), .second, .val (.ref b14), .val (.long v10_29), .second, .val (.int (1 : Int32)), .val (.ref b30), .val (.long v14_52), .second, .unset, .unset, .unset] [(.int (lcmpW v14_52 v5_9))]))
  by_cases hc53 : v14_52 = v5_9
  · --
    refine own_by (fun _ k => XS.ifNo X45.here hx rfl (hb hby at_82) rfl ((if0 _ _).trans (teq ((lw_eq _ _).mpr hc53)).2) k) ?_
    show own_Go _ _ _ _ (T45.setTop (mkF m 85 #[.val (.long q1), .second, .val (.long q2), .second, .val (.ref b1), .val (.long v5_9), .second, .val (.long v7_13), .second, .val (.ref b14), .val (.long v10_29), .second, .val (.int (1 : Int32)), .val (.ref b30), .val (.long v14_52), .second, .unset, .unset, .unset] []))
    refine own_by (fun _ k => XS.iconst X45.here hx rfl (hb hby at_85) k) ?_
    show own_Go _ _ _ _ (T45.setTop (mkF m 86 #[.val (.long q1), .second, .val (.long q2), .second, .val (.ref b1), .val (.long v5_9), .second, .val (.long v7_13), .second, .val (.ref b14), .val (.long v10_29), .second, .val (.int (1 : Int32)), .val (.ref b30), .val (.long v14_52), .second, .unset, .unset, .unset] [(.int (1 : Int32))]))
    refine own_by (fun _ k => XS.goto X45.here hx rfl (pc0 := 86) (pc' := 90) rfl (hb hby at_86) (by decide) (by decide) k) ?_
    show own_Go _ _ _ _ (T45.setTop (mkF m 90 #[.val (.long q1), .second, .val (.long q2), .second, .val (.ref b1), .val (.long v5_9), .second, .val (.long v7_13), .second, .val (.ref b14), .val (.long v10_29), .second, .val (.int (1 : Int32)), .val (.ref b30), .val (.long v14_52), .second, .unset, .unset, .unset] [(.int (1 : Int32))]))
    refine own_by (fun _ k => XS.lloadN X45.here hx rfl (hb hby at_90) rfl k) ?_
    show own_Go _ _ _ _ (T45.setTop (mkF m 91 #[.val (.long q1), .second, .val (.long q2), .second, .val (.ref b1), .val (.long v5_9), .second, .val (.long v7_13), .second, .val (.ref b14), .val (.long v10_29), .second, .val (.int (1 : Int32)), .val (.ref b30), .val (.long v14_52), .second, .unset, .unset, .unset] [(.long q1), (.int (1 : Int32))]))
    refine own_by (fun _ k => XS.lloadN X45.here hx rfl (hb hby at_91) rfl k) ?_
    show own_Go _ _ _ _ (T45.setTop (mkF m 92 #[.val (.long q1), .second, .val (.long q2), .second, .val (.ref b1), .val (.long v5_9), .second, .val (.long v7_13), .second, .val (.ref b14), .val (.long v10_29), .second, .val (.int (1 : Int32)), .val (.ref b30), .val (.long v14_52), .second, .unset, .unset, .unset] [(.long q2), (.long q1), (.int (1 : Int32))]))
    refine own_by (fun _ k => XS.lcmp X45.here hx rfl (hb hby at_92) rfl k) ?_
    show own_Go _ _ _ _ (T45.setTop (mkF m 93 #[.val (.long q1), .second, .val (.long q2), .second, .val (.ref b1), .val (.long v5_9), .second, .val (.long v7_13), .second, .val (.ref b14), .val (.long v10_29), .second, .val (.int (1 : Int32)), .val (.ref b30), .val (.long v14_52), .second, .unset, .unset, .unset] [(.int (lcmpW q1 q2)), (.int (1 : Int32))]))
    by_cases hc54 : q1 = q2
    · --
      refine own_by (fun _ k => XS.ifNo X45.here hx rfl (hb hby at_93) rfl ((if0 _ _).trans (teq ((lw_eq _ _).mpr hc54)).2) k) ?_
      show own_Go _ _ _ _ (T45.setTop (mkF m 96 #[.val (.long q1), .second, .val (.long q2), .second, .val (.ref b1), .val (.long v5_9), .second, .val (.long v7_13), .second, .val (.ref b14), .val (.long v10_29), .second, .val (.int (1 : Int32)), .val (.ref b30), .val (.long v14_52), .second, .unset, .unset, .unset] [(.int (1 : Int32))]))
      refine own_by (fun _ k => XS.iconst X45.here hx rfl (hb hby at_96) k) ?_
      show own_Go _ _ _ _ (T45.setTop (mkF m 97 #[.val (.long q1), .second, .val (.long q2), .second, .val (.ref b1), .val (.long v5_9), .second, .val (.long v7_13), .second, .val (.ref b14), .val (.long v10_29), .second, .val (.int (1 : Int32)), .val (.ref b30), .val (.long v14_52), .second, .unset, .unset, .unset] [(.int (1 : Int32)), (.int (1 : Int32))]))
      refine own_by (fun _ k => XS.goto X45.here hx rfl (pc0 := 97) (pc' := 101) rfl (hb hby at_97) (by decide) (by decide) k) ?_
      show own_Go _ _ _ _ (T45.setTop (mkF m 101 #[.val (.long q1), .second, .val (.long q2), .second, .val (.ref b1), .val (.long v5_9), .second, .val (.long v7_13), .second, .val (.ref b14), .val (.long v10_29), .second, .val (.int (1 : Int32)), .val (.ref b30), .val (.long v14_52), .second, .unset, .unset, .unset] [(.int (1 : Int32)), (.int (1 : Int32))]))
      refine own_by (fun _ k => XS.icmpNo X45.here hx rfl (hb hby at_101) rfl (teq (by decide)).2 k) ?_
      show own_Go _ _ _ _ (T45.setTop (mkF m 104 #[.val (.long q1), .second, .val (.long q2), .second, .val (.ref b1), .val (.long v5_9), .second, .val (.long v7_13), .second, .val (.ref b14), .val (.long v10_29), .second, .val (.int (1 : Int32)), .val (.ref b30), .val (.long v14_52), .second, .unset, .unset, .unset] []))
      refine own_by (fun _ k => XS.iconst X45.here hx rfl (hb hby at_104) k) ?_
      show own_Go _ _ _ _ (T45.setTop (mkF m 105 #[.val (.long q1), .second, .val (.long q2), .second, .val (.ref b1), .val (.long v5_9), .second, .val (.long v7_13), .second, .val (.ref b14), .val (.long v10_29), .second, .val (.int (1 : Int32)), .val (.ref b30), .val (.long v14_52), .second, .unset, .unset, .unset] [(.int (1 : Int32))]))
      refine own_by (fun _ k => XS.goto X45.here hx rfl (pc0 := 105) (pc' := 109) rfl (hb hby at_105) (by decide) (by decide) k) ?_
      show own_Go _ _ _ _ (T45.setTop (mkF m 109 #[.val (.long q1), .second, .val (.long q2), .second, .val (.ref b1), .val (.long v5_9), .second, .val (.long v7_13), .second, .val (.ref b14), .val (.long v10_29), .second, .val (.int (1 : Int32)), .val (.ref b30), .val (.long v14_52), .second, .unset, .unset, .unset] [(.int (1 : Int32))]))
      refine own_by (fun _ k => XS.istore X45.here hx rfl (hb hby at_109) rfl (l' := #[.val (.long q1), .second, .val (.long q2), .second, .val (.ref b1), .val (.long v5_9), .second, .val (.long v7_13), .second, .val (.ref b14), .val (.long v10_29), .second, .val (.int (1 : Int32)), .val (.ref b30), .val (.long v14_52), .second, .val (.int (1 : Int32)), .unset, .unset]) rfl k) ?_
      show own_Go _ _ _ _ (T45.setTop (mkF m 111 #[.val (.long q1), .second, .val (.long q2), .second, .val (.ref b1), .val (.long v5_9), .second, .val (.long v7_13), .second, .val (.ref b14), .val (.long v10_29), .second, .val (.int (1 : Int32)), .val (.ref b30), .val (.long v14_52), .second, .val (.int (1 : Int32)), .unset, .unset] []))
      obtain ⟨T55, h55, X55, e55, E55, A55, D55, -, st55⟩ := newO X45 hx hZ hown (hw _ (List.mem_of_getElem? (i := 0) rfl)) (hw _ (List.mem_of_getElem? (i := 1) rfl)) (hw _ (List.mem_of_getElem? (i := 2) rfl)) e45 (g := (mkF m 111 #[.val (.long q1), .second, .val (.long q2), .second, .val (.ref b1), .val (.long v5_9), .second, .val (.long v7_13), .second, .val (.ref b14), .val (.long v10_29), .second, .val (.int (1 : Int32)), .val (.ref b30), .val (.long v14_52), .second, .val (.int (1 : Int32)), .unset, .unset] [])) rfl (hb hby at_111) (by decide) (by decide)
      refine own_by st55 ?_
      show own_Go _ _ _ _ (T55.setTop (mkF m 114 #[.val (.long q1), .second, .val (.long q2), .second, .val (.ref b1), .val (.long v5_9), .second, .val (.long v7_13), .second, .val (.ref b14), .val (.long v10_29), .second, .val (.int (1 : Int32)), .val (.ref b30), .val (.long v14_52), .second, .val (.int (1 : Int32)), .unset, .unset] [.ref h45.size]))
      obtain ⟨b55, g55⟩ : ∃ z, z = h45.size := ⟨_, rfl⟩
      rw [← g55] at A55 D55
      refine own_gen g55.symm (fun z_ => T55.setTop (mkF m 114 #[.val (.long q1), .second, .val (.long q2), .second, .val (.ref b1), .val (.long v5_9), .second, .val (.long v7_13), .second, .val (.ref b14), .val (.long v10_29), .second, .val (.int (1 : Int32)), .val (.ref b30), .val (.long v14_52), .second, .val (.int (1 : Int32)), .unset, .unset] [.ref z_])) ?_
      have ne56 : b1 ≠ b55 := Nat.ne_of_lt (Nat.lt_of_lt_of_le f46.lt (Nat.le_of_eq g55.symm))
      have ne57 : b30 ≠ b55 := Nat.ne_of_lt (Nat.lt_of_lt_of_le f50.lt (Nat.le_of_eq g55.symm))
      have ne58 : b14 ≠ b55 := Nat.ne_of_lt (Nat.lt_of_lt_of_le f48.lt (Nat.le_of_eq g55.symm))
      have ge55 : n0 ≤ b55 := Nat.le_trans Z45 (Nat.le_of_eq g55.symm)
      have f59 := f46.ext E55
      have f60 := f47.ext E55
      have f61 := f48.ext E55
      have f62 := f49.ext E55
      have f63 := f50.ext E55
      have f64 := F45.ext E55
      have Z55 := Nat.le_trans Z45 E55.1
      have f65 : Fld Z h55 b55 "com/example/libmakespan/libmakespan/SplitMix64" "state" "J" (.long (0 : Int64)) := D55 (Or.inl (hw _ (List.mem_of_getElem? (i := 10) rfl))) (ty := .long) (by decide)
      show own_Go _ _ _ _ (T55.setTop (mkF m 114 #[.val (.long q1), .second, .val (.long q2), .second, .val (.ref b1), .val (.long v5_9), .second, .val (.long v7_13), .second, .val (.ref b14), .val (.long v10_29), .second, .val (.int (1 : Int32)), .val (.ref b30), .val (.long v14_52), .second, .val (.int (1 : Int32)), .unset, .unset] [(.ref b55)]))
      refine own_by (fun _ k => XS.dup X55.here hx rfl (hb hby at_114) rfl rfl k) ?_
      show own_Go _ _ _ _ (T55.setTop (mkF m 115 #[.val (.long q1), .second, .val (.long q2), .second, .val (.ref b1), .val (.long v5_9), .second, .val (.long v7_13), .second, .val (.ref b14), .val (.long v10_29), .second, .val (.int (1 : Int32)), .val (.ref b30), .val (.long v14_52), .second, .val (.int (1 : Int32)), .unset, .unset] [(.ref b55), (.ref b55)]))
      refine own_by (fun _ k => X55.ldc2Long hx hown (mvT hZ (hw _ (List.mem_of_getElem? (i := 20) rfl))) (g := (mkF m 115 #[.val (.long q1), .second, .val (.long q2), .second, .val (.ref b1), .val (.long v5_9), .second, .val (.long v7_13), .second, .val (.ref b14), .val (.long v10_29), .second, .val (.int (1 : Int32)), .val (.ref b30), .val (.long v14_52), .second, .val (.int (1 : Int32)), .unset, .unset] [(.ref b55), (.ref b55)])) rfl (hb hby at_115) _ k) ?_
      show own_Go _ _ _ _ (T55.setTop (mkF m 118 #[.val (.long q1), .second, .val (.long q2), .second, .val (.ref b1), .val (.long v5_9), .second, .val (.long v7_13), .second, .val (.ref b14), .val (.long v10_29), .second, .val (.int (1 : Int32)), .val (.ref b30), .val (.long v14_52), .second, .val (.int (1 : Int32)), .unset, .unset] [(.long (1234567 : Int64)), (.ref b55), (.ref b55)]))
      obtain ⟨_, _, ⟨T66, L66, k66, n66⟩, -, X66, ⟨Lc66, hQ66, l66, y66, z66⟩, st66⟩ := X55.specialBack hx (y := (⟨"com/example/libmakespan/libmakespan/SplitMix64", "<init>", "(J)V"⟩ : MethodName)) rfl hown (mvT hZ (hw _ (List.mem_of_getElem? (i := 3) rfl))) (mvT hZ (hw _ (List.mem_of_getElem? (i := 4) rfl))) (mvT hZ (hw _ (List.mem_of_getElem? (i := 5) rfl))) (by decide) (backOf (W := 1) (rm1 l Z a0 hw [] b55 (1234567 : Int64) h55 n0 Z55 A55 f65 ge55) hZ (hw _ (List.mem_of_getElem? (i := 5) rfl)) (hw _ (List.mem_of_getElem? (i := 2) rfl)) (by decide) (by decide)) (g := (mkF m 118 #[.val (.long q1), .second, .val (.long q2), .second, .val (.ref b1), .val (.long v5_9), .second, .val (.long v7_13), .second, .val (.ref b14), .val (.long v10_29), .second, .val (.int (1 : Int32)), .val (.ref b30), .val (.long v14_52), .second, .val (.int (1 : Int32)), .unset, .unset] [(.long (1234567 : Int64)), (.ref b55), (.ref b55)])) rfl (by rw [hml]; rfl) (Steps.refl _) (a := b55) (argsL := [(.long (1234567 : Int64))]) (rest := [(.ref b55)]) (lenOf own_pd0 rfl) rfl (by show 2 * 0 + _ ≤ _; exact Nat.le_of_eq rfl) (hb hby at_118) (fun _ _ => ⟨rfl, e55, Nat.le_of_ble_eq_true rfl, Nat.le_of_ble_eq_true rfl⟩)
      dsimp only [Pt.U, Pt.locs, Pt.cells, Pt.slots] at X66 l66 y66 z66 st66 hQ66
      subst l66 y66 z66
      obtain ⟨h66, e66⟩ : ∃ h, T66.heap = h := ⟨_, rfl⟩
      rw [e66] at hQ66
      obtain ⟨rfl, N66q, K66, F66⟩ := hQ66
      have N66 := Fr.app N45 N66q
      refine own_tr st66 ?_
      have f67 := f59.keep K66
      have f68 := f60.keep K66 (ninS ne56 nin0)
      have f69 := f61.keep K66
      have f70 := f62.keep K66 (ninS ne58 nin0)
      have f71 := f63.keep K66
      have f72 := f64.keep K66 (ninS ne57 nin0)
      have f73 := A55.keep K66
      have Z66 := Nat.le_trans Z55 K66.1
      show own_Go _ _ _ _ (T66.setTop (mkF m 121 #[.val (.long q1), .second, .val (.long q2), .second, .val (.ref b1), .val (.long v5_9), .second, .val (.long v7_13), .second, .val (.ref b14), .val (.long v10_29), .second, .val (.int (1 : Int32)), .val (.ref b30), .val (.long v14_52), .second, .val (.int (1 : Int32)), .unset, .unset] [(.ref b55)]))
      refine own_by (fun _ k => XS.astore X66.here hx rfl (hb hby at_121) rfl rfl (l' := #[.val (.long q1), .second, .val (.long q2), .second, .val (.ref b1), .val (.long v5_9), .second, .val (.long v7_13), .second, .val (.ref b14), .val (.long v10_29), .second, .val (.int (1 : Int32)), .val (.ref b30), .val (.long v14_52), .second, .val (.int (1 : Int32)), .val (.ref b55), .unset]) rfl k) ?_
      show own_Go _ _ _ _ (T66.setTop (mkF m 123 #[.val (.long q1), .second, .val (.long q2), .second, .val (.ref b1), .val (.long v5_9), .second, .val (.long v7_13), .second, .val (.ref b14), .val (.long v10_29), .second, .val (.int (1 : Int32)), .val (.ref b30), .val (.long v14_52), .second, .val (.int (1 : Int32)), .val (.ref b55), .unset] []))
      refine own_by (fun _ k => XS.aload X66.here hx rfl (hb hby at_123) rfl rfl k) ?_
      show own_Go _ _ _ _ (T66.setTop (mkF m 125 #[.val (.long q1), .second, .val (.long q2), .second, .val (.ref b1), .val (.long v5_9), .second, .val (.long v7_13), .second, .val (.ref b14), .val (.long v10_29), .second, .val (.int (1 : Int32)), .val (.ref b30), .val (.long v14_52), .second, .val (.int (1 : Int32)), .val (.ref b55), .unset] [(.ref b55)]))
      obtain ⟨cq75, kq75, q75a, q75b, q75c⟩ := isOf hZ e66 f73
      obtain ⟨_, _, ⟨T75, L75, k75, n75⟩, -, X75, ⟨Lc75, hQ75, l75, y75, z75⟩, st75⟩ := X66.virtualBack hx (y := (⟨"com/example/libmakespan/libmakespan/SplitMix64", "next", "()J"⟩ : MethodName)) (z := (⟨"com/example/libmakespan/libmakespan/SplitMix64", "next", "()J"⟩ : MethodName)) hown (mvT hZ (hw _ (List.mem_of_getElem? (i := 11) rfl))) (mvT hZ (hw _ (List.mem_of_getElem? (i := 12) rfl))) (notFace_of_selects (args := #[]) (mvT hZ (hw _ (List.mem_of_getElem? (i := 14) rfl)))) (mvT hZ (hw _ (List.mem_of_getElem? (i := 14) rfl))) (mvT hZ (hw _ (List.mem_of_getElem? (i := 13) rfl))) (by decide) (backOf (W := 0) (rm3 l Z a0 hw [] b55 (1234567 : Int64) h66 n0 Z66 f73 F66 ge55) hZ (hw _ (List.mem_of_getElem? (i := 15) rfl)) (hw _ (List.mem_of_getElem? (i := 2) rfl)) (by decide) (by decide)) q75a q75c (g := (mkF m 125 #[.val (.long q1), .second, .val (.long q2), .second, .val (.ref b1), .val (.long v5_9), .second, .val (.long v7_13), .second, .val (.ref b14), .val (.long v10_29), .second, .val (.int (1 : Int32)), .val (.ref b30), .val (.long v14_52), .second, .val (.int (1 : Int32)), .val (.ref b55), .unset] [(.ref b55)])) rfl (by rw [hml]; rfl) (Steps.refl _) (argsL := []) (rest := []) (lenOf own_pd1 rfl) rfl (by show 2 * 0 + _ ≤ _; exact Nat.le_of_eq rfl) (hb hby at_125) (fun _ _ => ⟨rfl, e66, Nat.le_of_ble_eq_true rfl, Nat.le_of_ble_eq_true rfl⟩)
      dsimp only [Pt.U, Pt.locs, Pt.cells, Pt.slots] at X75 l75 y75 z75 st75 hQ75
      subst l75 y75 z75
      obtain ⟨h75, e75⟩ : ∃ h, T75.heap = h := ⟨_, rfl⟩
      rw [e75] at hQ75
      obtain ⟨rfl, N75q, K75, F75⟩ := hQ75
      have N75 := Fr.app N66 N75q
      refine own_tr st75 ?_
      have f76 := f67.keep K75
      have f77 := f68.keep K75 (ninS ne56 nin0)
      have f78 := f69.keep K75
      have f79 := f70.keep K75 (ninS ne58 nin0)
      have f80 := f71.keep K75
      have f81 := f72.keep K75 (ninS ne57 nin0)
      have f82 := f73.keep K75
      have Z75 := Nat.le_trans Z66 K75.1
      show own_Go _ _ _ _ (T75.setTop (mkF m 128 #[.val (.long q1), .second, .val (.long q2), .second, .val (.ref b1), .val (.long v5_9), .second, .val (.long v7_13), .second, .val (.ref b14), .val (.long v10_29), .second, .val (.int (1 : Int32)), .val (.ref b30), .val (.long v14_52), .second, .val (.int (1 : Int32)), .val (.ref b55), .unset] [(.long (own_mix ((1234567 : Int64) + (-7046029254386353131 : Int64))))]))
      refine own_by (fun _ k => X75.ldc2Long hx hown (mvT hZ (hw _ (List.mem_of_getElem? (i := 21) rfl))) (g := (mkF m 128 #[.val (.long q1), .second, .val (.long q2), .second, .val (.ref b1), .val (.long v5_9), .second, .val (.long v7_13), .second, .val (.ref b14), .val (.long v10_29), .second, .val (.int (1 : Int32)), .val (.ref b30), .val (.long v14_52), .second, .val (.int (1 : Int32)), .val (.ref b55), .unset] [(.long (own_mix ((1234567 : Int64) + (-7046029254386353131 : Int64))))])) rfl (hb hby at_128) _ k) ?_
      show own_Go _ _ _ _ (T75.setTop (mkF m 131 #[.val (.long q1), .second, .val (.long q2), .second, .val (.ref b1), .val (.long v5_9), .second, .val (.long v7_13), .second, .val (.ref b14), .val (.long v10_29), .second, .val (.int (1 : Int32)), .val (.ref b30), .val (.long v14_52), .second, .val (.int (1 : Int32)), .val (.ref b55), .unset] [(.long (6457827717110365317 : Int64)), (.long (own_mix ((1234567 : Int64) + (-7046029254386353131 : Int64))))]))
      refine own_by (fun _ k => XS.lcmp X75.here hx rfl (hb hby at_131) rfl k) ?_
      show own_Go _ _ _ _ (T75.setTop (mkF m 132 #[.val (.long q1), .second, .val (.long q2), .second, .val (.ref b1), .val (.long v5_9), .second, .val (.long v7_13), .second, .val (.ref b14), .val (.long v10_29), .second, .val (.int (1 : Int32)), .val (.ref b30), .val (.long v14_52), .second, .val (.int (1 : Int32)), .val (.ref b55), .unset] [(.int (lcmpW (own_mix ((1234567 : Int64) + (-7046029254386353131 : Int64))) (6457827717110365317 : Int64)))]))
      refine own_by (fun _ k => XS.ifNo X75.here hx rfl (hb hby at_132) rfl ((if0 _ _).trans (teq ((lw_eq _ _).mpr (by decide +kernel))).2) k) ?_
      show own_Go _ _ _ _ (T75.setTop (mkF m 135 #[.val (.long q1), .second, .val (.long q2), .second, .val (.ref b1), .val (.long v5_9), .second, .val (.long v7_13), .second, .val (.ref b14), .val (.long v10_29), .second, .val (.int (1 : Int32)), .val (.ref b30), .val (.long v14_52), .second, .val (.int (1 : Int32)), .val (.ref b55), .unset] []))
      refine own_by (fun _ k => XS.iconst X75.here hx rfl (hb hby at_135) k) ?_
      show own_Go _ _ _ _ (T75.setTop (mkF m 136 #[.val (.long q1), .second, .val (.long q2), .second, .val (.ref b1), .val (.long v5_9), .second, .val (.long v7_13), .second, .val (.ref b14), .val (.long v10_29), .second, .val (.int (1 : Int32)), .val (.ref b30), .val (.long v14_52), .second, .val (.int (1 : Int32)), .val (.ref b55), .unset] [(.int (1 : Int32))]))
      refine own_by (fun _ k => XS.goto X75.here hx rfl (pc0 := 136) (pc' := 140) rfl (hb hby at_136) (by decide) (by decide) k) ?_
      show own_Go _ _ _ _ (T75.setTop (mkF m 140 #[.val (.long q1), .second, .val (.long q2), .second, .val (.ref b1), .val (.long v5_9), .second, .val (.long v7_13), .second, .val (.ref b14), .val (.long v10_29), .second, .val (.int (1 : Int32)), .val (.ref b30), .val (.long v14_52), .second, .val (.int (1 : Int32)), .val (.ref b55), .unset] [(.int (1 : Int32))]))
      refine own_by (fun _ k => XS.istore X75.here hx rfl (hb hby at_140) rfl (l' := #[.val (.long q1), .second, .val (.long q2), .second, .val (.ref b1), .val (.long v5_9), .second, .val (.long v7_13), .second, .val (.ref b14), .val (.long v10_29), .second, .val (.int (1 : Int32)), .val (.ref b30), .val (.long v14_52), .second, .val (.int (1 : Int32)), .val (.ref b55), .val (.int (1 : Int32))]) rfl k) ?_
      show own_Go _ _ _ _ (T75.setTop (mkF m 142 #[.val (.long q1), .second, .val (.long q2), .second, .val (.ref b1), .val (.long v5_9), .second, .val (.long v7_13), .second, .val (.ref b14), .val (.long v10_29), .second, .val (.int (1 : Int32)), .val (.ref b30), .val (.long v14_52), .second, .val (.int (1 : Int32)), .val (.ref b55), .val (.int (1 : Int32))] []))
      refine own_by (fun _ k => XS.iload X75.here hx rfl (hb hby at_142) rfl k) ?_
      show own_Go _ _ _ _ (T75.setTop (mkF m 144 #[.val (.long q1), .second, .val (.long q2), .second, .val (.ref b1), .val (.long v5_9), .second, .val (.long v7_13), .second, .val (.ref b14), .val (.long v10_29), .second, .val (.int (1 : Int32)), .val (.ref b30), .val (.long v14_52), .second, .val (.int (1 : Int32)), .val (.ref b55), .val (.int (1 : Int32))] [(.int (1 : Int32))]))
      refine own_by (fun _ k => XS.ifNo X75.here hx rfl (hb hby at_144) rfl ((if0 _ _).trans (feq (by decide)).1) k) ?_
      show own_Go _ _ _ _ (T75.setTop (mkF m 147 #[.val (.long q1), .second, .val (.long q2), .second, .val (.ref b1), .val (.long v5_9), .second, .val (.long v7_13), .second, .val (.ref b14), .val (.long v10_29), .second, .val (.int (1 : Int32)), .val (.ref b30), .val (.long v14_52), .second, .val (.int (1 : Int32)), .val (.ref b55), .val (.int (1 : Int32))] []))
      refine own_by (fun _ k => XS.iload X75.here hx rfl (hb hby at_147) rfl k) ?_
      show own_Go _ _ _ _ (T75.setTop (mkF m 149 #[.val (.long q1), .second, .val (.long q2), .second, .val (.ref b1), .val (.long v5_9), .second, .val (.long v7_13), .second, .val (.ref b14), .val (.long v10_29), .second, .val (.int (1 : Int32)), .val (.ref b30), .val (.long v14_52), .second, .val (.int (1 : Int32)), .val (.ref b55), .val (.int (1 : Int32))] [(.int (1 : Int32))]))
      refine own_by (fun _ k => XS.ifNo X75.here hx rfl (hb hby at_149) rfl ((if0 _ _).trans (feq (by decide)).1) k) ?_
      show own_Go _ _ _ _ (T75.setTop (mkF m 152 #[.val (.long q1), .second, .val (.long q2), .second, .val (.ref b1), .val (.long v5_9), .second, .val (.long v7_13), .second, .val (.ref b14), .val (.long v10_29), .second, .val (.int (1 : Int32)), .val (.ref b30), .val (.long v14_52), .second, .val (.int (1 : Int32)), .val (.ref b55), .val (.int (1 : Int32))] []))
      refine own_by (fun _ k => XS.iload X75.here hx rfl (hb hby at_152) rfl k) ?_
      show own_Go _ _ _ _ (T75.setTop (mkF m 154 #[.val (.long q1), .second, .val (.long q2), .second, .val (.ref b1), .val (.long v5_9), .second, .val (.long v7_13), .second, .val (.ref b14), .val (.long v10_29), .second, .val (.int (1 : Int32)), .val (.ref b30), .val (.long v14_52), .second, .val (.int (1 : Int32)), .val (.ref b55), .val (.int (1 : Int32))] [(.int (1 : Int32))]))
      refine own_by (fun _ k => XS.ifNo X75.here hx rfl (hb hby at_154) rfl ((if0 _ _).trans (feq (by decide)).1) k) ?_
      show own_Go _ _ _ _ (T75.setTop (mkF m 157 #[.val (.long q1), .second, .val (.long q2), .second, .val (.ref b1), .val (.long v5_9), .second, .val (.long v7_13), .second, .val (.ref b14), .val (.long v10_29), .second, .val (.int (1 : Int32)), .val (.ref b30), .val (.long v14_52), .second, .val (.int (1 : Int32)), .val (.ref b55), .val (.int (1 : Int32))] []))
      refine own_by (fun _ k => XS.iconst X75.here hx rfl (hb hby at_157) k) ?_
      show own_Go _ _ _ _ (T75.setTop (mkF m 158 #[.val (.long q1), .second, .val (.long q2), .second, .val (.ref b1), .val (.long v5_9), .second, .val (.long v7_13), .second, .val (.ref b14), .val (.long v10_29), .second, .val (.int (1 : Int32)), .val (.ref b30), .val (.long v14_52), .second, .val (.int (1 : Int32)), .val (.ref b55), .val (.int (1 : Int32))] [(.int (1 : Int32))]))
      refine own_by (fun _ k => XS.goto X75.here hx rfl (pc0 := 158) (pc' := 162) rfl (hb hby at_158) (by decide) (by decide) k) ?_
      show own_Go _ _ _ _ (T75.setTop (mkF m 162 #[.val (.long q1), .second, .val (.long q2), .second, .val (.ref b1), .val (.long v5_9), .second, .val (.long v7_13), .second, .val (.ref b14), .val (.long v10_29), .second, .val (.int (1 : Int32)), .val (.ref b30), .val (.long v14_52), .second, .val (.int (1 : Int32)), .val (.ref b55), .val (.int (1 : Int32))] [(.int (1 : Int32))]))
      exact own_retN X75 hx Bd.notSynchronized e75 Bd.returns (by simp) (hb hby at_162) (⟨rfl, N75⟩) (by decide) (by decide)
    · --
      exact absurd ((own_inj hv5_9 hv14_52).mp hc53) hc54
  · --
    refine own_by (fun _ k => XS.ifYes X45.here hx rfl (pc0 := 82) (pc' := 89) rfl (hb hby at_82) rfl ((if0 _ _).trans (feq (mt (lw_eq _ _).mp hc53)).2) (by decide) (by decide) k) ?_
    show own_Go _ _ _ _ (T45.setTop (mkF m 89 #[.val (.long q1), .second, .val (.long q2), .second, .val (.ref b1), .val (.long v5_9), .second, .val (.long v7_13), .second, .val (.ref b14), .val (.long v10_29), .second, .val (.int (1 : Int32)), .val (.ref b30), .val (.long v14_52), .second, .unset, .unset, .unset] []))
    refine own_by (fun _ k => XS.iconst X45.here hx rfl (hb hby at_89) k) ?_
    show own_Go _ _ _ _ (T45.setTop (mkF m 90 #[.val (.long q1), .second, .val (.long q2), .second, .val (.ref b1), .val (.long v5_9), .second, .val (.long v7_13), .second, .val (.ref b14), .val (.long v10_29), .second, .val (.int (1 : Int32)), .val (.ref b30), .val (.long v14_52), .second, .unset, .unset, .unset] [(.int (0 : Int32))]))
    refine own_by (fun _ k => XS.lloadN X45.here hx rfl (hb hby at_90) rfl k) ?_
    show own_Go _ _ _ _ (T45.setTop (mkF m 91 #[.val (.long q1), .second, .val (.long q2), .second, .val (.ref b1), .val (.long v5_9), .second, .val (.long v7_13), .second, .val (.ref b14), .val (.long v10_29), .second, .val (.int (1 : Int32)), .val (.ref b30), .val (.long v14_52), .second, .unset, .unset, .unset] [(.long q1), (.int (0 : Int32))]))
    refine own_by (fun _ k => XS.lloadN X45.here hx rfl (hb hby at_91) rfl k) ?_
    show own_Go _ _ _ _ (T45.setTop (mkF m 92 #[.val (.long q1), .second, .val (.long q2), .second, .val (.ref b1), .val (.long v5_9), .second, .val (.long v7_13), .second, .val (.ref b14), .val (.long v10_29), .second, .val (.int (1 : Int32)), .val (.ref b30), .val (.long v14_52), .second, .unset, .unset, .unset] [(.long q2), (.long q1), (.int (0 : Int32))]))
    refine own_by (fun _ k => XS.lcmp X45.here hx rfl (hb hby at_92) rfl k) ?_
    show own_Go _ _ _ _ (T45.setTop (mkF m 93 #[.val (.long q1), .second, .val (.long q2), .second, .val (.ref b1), .val (.long v5_9), .second, .val (.long v7_13), .second, .val (.ref b14), .val (.long v10_29), .second, .val (.int (1 : Int32)), .val (.ref b30), .val (.long v14_52), .second, .unset, .unset, .unset] [(.int (lcmpW q1 q2)), (.int (0 : Int32))]))
    by_cases hc84 : q1 = q2
    · --
      exact absurd ((own_inj hv5_9 hv14_52).mpr hc84) hc53
    · --
      refine own_by (fun _ k => XS.ifYes X45.here hx rfl (pc0 := 93) (pc' := 100) rfl (hb hby at_93) rfl ((if0 _ _).trans (feq (mt (lw_eq _ _).mp hc84)).2) (by decide) (by decide) k) ?_
      show own_Go _ _ _ _ (T45.setTop (mkF m 100 #[.val (.long q1), .second, .val (.long q2), .second, .val (.ref b1), .val (.long v5_9), .second, .val (.long v7_13), .second, .val (.ref b14), .val (.long v10_29), .second, .val (.int (1 : Int32)), .val (.ref b30), .val (.long v14_52), .second, .unset, .unset, .unset] [(.int (0 : Int32))]))
      refine own_by (fun _ k => XS.iconst X45.here hx rfl (hb hby at_100) k) ?_
      show own_Go _ _ _ _ (T45.setTop (mkF m 101 #[.val (.long q1), .second, .val (.long q2), .second, .val (.ref b1), .val (.long v5_9), .second, .val (.long v7_13), .second, .val (.ref b14), .val (.long v10_29), .second, .val (.int (1 : Int32)), .val (.ref b30), .val (.long v14_52), .second, .unset, .unset, .unset] [(.int (0 : Int32)), (.int (0 : Int32))]))
      refine own_by (fun _ k => XS.icmpNo X45.here hx rfl (hb hby at_101) rfl (teq (by decide)).2 k) ?_
      show own_Go _ _ _ _ (T45.setTop (mkF m 104 #[.val (.long q1), .second, .val (.long q2), .second, .val (.ref b1), .val (.long v5_9), .second, .val (.long v7_13), .second, .val (.ref b14), .val (.long v10_29), .second, .val (.int (1 : Int32)), .val (.ref b30), .val (.long v14_52), .second, .unset, .unset, .unset] []))
      refine own_by (fun _ k => XS.iconst X45.here hx rfl (hb hby at_104) k) ?_
      show own_Go _ _ _ _ (T45.setTop (mkF m 105 #[.val (.long q1), .second, .val (.long q2), .second, .val (.ref b1), .val (.long v5_9), .second, .val (.long v7_13), .second, .val (.ref b14), .val (.long v10_29), .second, .val (.int (1 : Int32)), .val (.ref b30), .val (.long v14_52), .second, .unset, .unset, .unset] [(.int (1 : Int32))]))
      refine own_by (fun _ k => XS.goto X45.here hx rfl (pc0 := 105) (pc' := 109) rfl (hb hby at_105) (by decide) (by decide) k) ?_
      show own_Go _ _ _ _ (T45.setTop (mkF m 109 #[.val (.long q1), .second, .val (.long q2), .second, .val (.ref b1), .val (.long v5_9), .second, .val (.long v7_13), .second, .val (.ref b14), .val (.long v10_29), .second, .val (.int (1 : Int32)), .val (.ref b30), .val (.long v14_52), .second, .unset, .unset, .unset] [(.int (1 : Int32))]))
      refine own_by (fun _ k => XS.istore X45.here hx rfl (hb hby at_109) rfl (l' := #[.val (.long q1), .second, .val (.long q2), .second, .val (.ref b1), .val (.long v5_9), .second, .val (.long v7_13), .second, .val (.ref b14), .val (.long v10_29), .second, .val (.int (1 : Int32)), .val (.ref b30), .val (.long v14_52), .second, .val (.int (1 : Int32)), .unset, .unset]) rfl k) ?_
      show own_Go _ _ _ _ (T45.setTop (mkF m 111 #[.val (.long q1), .second, .val (.long q2), .second, .val (.ref b1), .val (.long v5_9), .second, .val (.long v7_13), .second, .val (.ref b14), .val (.long v10_29), .second, .val (.int (1 : Int32)), .val (.ref b30), .val (.long v14_52), .second, .val (.int (1 : Int32)), .unset, .unset] []))
      obtain ⟨T85, h85, X85, e85, E85, A85, D85, -, st85⟩ := newO X45 hx hZ hown (hw _ (List.mem_of_getElem? (i := 0) rfl)) (hw _ (List.mem_of_getElem? (i := 1) rfl)) (hw _ (List.mem_of_getElem? (i := 2) rfl)) e45 (g := (mkF m 111 #[.val (.long q1), .second, .val (.long q2), .second, .val (.ref b1), .val (.long v5_9), .second, .val (.long v7_13), .second, .val (.ref b14), .val (.long v10_29), .second, .val (.int (1 : Int32)), .val (.ref b30), .val (.long v14_52), .second, .val (.int (1 : Int32)), .unset, .unset] [])) rfl (hb hby at_111) (by decide) (by decide)
      refine own_by st85 ?_
      show own_Go _ _ _ _ (T85.setTop (mkF m 114 #[.val (.long q1), .second, .val (.long q2), .second, .val (.ref b1), .val (.long v5_9), .second, .val (.long v7_13), .second, .val (.ref b14), .val (.long v10_29), .second, .val (.int (1 : Int32)), .val (.ref b30), .val (.long v14_52), .second, .val (.int (1 : Int32)), .unset, .unset] [.ref h45.size]))
      obtain ⟨b85, g85⟩ : ∃ z, z = h45.size := ⟨_, rfl⟩
      rw [← g85] at A85 D85
      refine own_gen g85.symm (fun z_ => T85.setTop (mkF m 114 #[.val (.long q1), .second, .val (.long q2), .second, .val (.ref b1), .val (.long v5_9), .second, .val (.long v7_13), .second, .val (.ref b14), .val (.long v10_29), .second, .val (.int (1 : Int32)), .val (.ref b30), .val (.long v14_52), .second, .val (.int (1 : Int32)), .unset, .unset] [.ref z_])) ?_
      have ne86 : b1 ≠ b85 := Nat.ne_of_lt (Nat.lt_of_lt_of_le f46.lt (Nat.le_of_eq g85.symm))
      have ne87 : b30 ≠ b85 := Nat.ne_of_lt (Nat.lt_of_lt_of_le f50.lt (Nat.le_of_eq g85.symm))
      have ne88 : b14 ≠ b85 := Nat.ne_of_lt (Nat.lt_of_lt_of_le f48.lt (Nat.le_of_eq g85.symm))
      have ge85 : n0 ≤ b85 := Nat.le_trans Z45 (Nat.le_of_eq g85.symm)
      have f89 := f46.ext E85
      have f90 := f47.ext E85
      have f91 := f48.ext E85
      have f92 := f49.ext E85
      have f93 := f50.ext E85
      have f94 := F45.ext E85
      have Z85 := Nat.le_trans Z45 E85.1
      have f95 : Fld Z h85 b85 "com/example/libmakespan/libmakespan/SplitMix64" "state" "J" (.long (0 : Int64)) := D85 (Or.inl (hw _ (List.mem_of_getElem? (i := 10) rfl))) (ty := .long) (by decide)
      show own_Go _ _ _ _ (T85.setTop (mkF m 114 #[.val (.long q1), .second, .val (.long q2), .second, .val (.ref b1), .val (.long v5_9), .second, .val (.long v7_13), .second, .val (.ref b14), .val (.long v10_29), .second, .val (.int (1 : Int32)), .val (.ref b30), .val (.long v14_52), .second, .val (.int (1 : Int32)), .unset, .unset] [(.ref b85)]))
      refine own_by (fun _ k => XS.dup X85.here hx rfl (hb hby at_114) rfl rfl k) ?_
      show own_Go _ _ _ _ (T85.setTop (mkF m 115 #[.val (.long q1), .second, .val (.long q2), .second, .val (.ref b1), .val (.long v5_9), .second, .val (.long v7_13), .second, .val (.ref b14), .val (.long v10_29), .second, .val (.int (1 : Int32)), .val (.ref b30), .val (.long v14_52), .second, .val (.int (1 : Int32)), .unset, .unset] [(.ref b85), (.ref b85)]))
      refine own_by (fun _ k => X85.ldc2Long hx hown (mvT hZ (hw _ (List.mem_of_getElem? (i := 20) rfl))) (g := (mkF m 115 #[.val (.long q1), .second, .val (.long q2), .second, .val (.ref b1), .val (.long v5_9), .second, .val (.long v7_13), .second, .val (.ref b14), .val (.long v10_29), .second, .val (.int (1 : Int32)), .val (.ref b30), .val (.long v14_52), .second, .val (.int (1 : Int32)), .unset, .unset] [(.ref b85), (.ref b85)])) rfl (hb hby at_115) _ k) ?_
      show own_Go _ _ _ _ (T85.setTop (mkF m 118 #[.val (.long q1), .second, .val (.long q2), .second, .val (.ref b1), .val (.long v5_9), .second, .val (.long v7_13), .second, .val (.ref b14), .val (.long v10_29), .second, .val (.int (1 : Int32)), .val (.ref b30), .val (.long v14_52), .second, .val (.int (1 : Int32)), .unset, .unset] [(.long (1234567 : Int64)), (.ref b85), (.ref b85)]))
      obtain ⟨_, _, ⟨T96, L96, k96, n96⟩, -, X96, ⟨Lc96, hQ96, l96, y96, z96⟩, st96⟩ := X85.specialBack hx (y := (⟨"com/example/libmakespan/libmakespan/SplitMix64", "<init>", "(J)V"⟩ : MethodName)) rfl hown (mvT hZ (hw _ (List.mem_of_getElem? (i := 3) rfl))) (mvT hZ (hw _ (List.mem_of_getElem? (i := 4) rfl))) (mvT hZ (hw _ (List.mem_of_getElem? (i := 5) rfl))) (by decide) (backOf (W := 1) (rm1 l Z a0 hw [] b85 (1234567 : Int64) h85 n0 Z85 A85 f95 ge85) hZ (hw _ (List.mem_of_getElem? (i := 5) rfl)) (hw _ (List.mem_of_getElem? (i := 2) rfl)) (by decide) (by decide)) (g := (mkF m 118 #[.val (.long q1), .second, .val (.long q2), .second, .val (.ref b1), .val (.long v5_9), .second, .val (.long v7_13), .second, .val (.ref b14), .val (.long v10_29), .second, .val (.int (1 : Int32)), .val (.ref b30), .val (.long v14_52), .second, .val (.int (1 : Int32)), .unset, .unset] [(.long (1234567 : Int64)), (.ref b85), (.ref b85)])) rfl (by rw [hml]; rfl) (Steps.refl _) (a := b85) (argsL := [(.long (1234567 : Int64))]) (rest := [(.ref b85)]) (lenOf own_pd0 rfl) rfl (by show 2 * 0 + _ ≤ _; exact Nat.le_of_eq rfl) (hb hby at_118) (fun _ _ => ⟨rfl, e85, Nat.le_of_ble_eq_true rfl, Nat.le_of_ble_eq_true rfl⟩)
      dsimp only [Pt.U, Pt.locs, Pt.cells, Pt.slots] at X96 l96 y96 z96 st96 hQ96
      subst l96 y96 z96
      obtain ⟨h96, e96⟩ : ∃ h, T96.heap = h := ⟨_, rfl⟩
      rw [e96] at hQ96
      obtain ⟨rfl, N96q, K96, F96⟩ := hQ96
      have N96 := Fr.app N45 N96q
      refine own_tr st96 ?_
      have f97 := f89.keep K96
      have f98 := f90.keep K96 (ninS ne86 nin0)
      have f99 := f91.keep K96
      have f100 := f92.keep K96 (ninS ne88 nin0)
      have f101 := f93.keep K96
      have f102 := f94.keep K96 (ninS ne87 nin0)
      have f103 := A85.keep K96
      have Z96 := Nat.le_trans Z85 K96.1
      show own_Go _ _ _ _ (T96.setTop (mkF m 121 #[.val (.long q1), .second, .val (.long q2), .second, .val (.ref b1), .val (.long v5_9), .second, .val (.long v7_13), .second, .val (.ref b14), .val (.long v10_29), .second, .val (.int (1 : Int32)), .val (.ref b30), .val (.long v14_52), .second, .val (.int (1 : Int32)), .unset, .unset] [(.ref b85)]))
      refine own_by (fun _ k => XS.astore X96.here hx rfl (hb hby at_121) rfl rfl (l' := #[.val (.long q1), .second, .val (.long q2), .second, .val (.ref b1), .val (.long v5_9), .second, .val (.long v7_13), .second, .val (.ref b14), .val (.long v10_29), .second, .val (.int (1 : Int32)), .val (.ref b30), .val (.long v14_52), .second, .val (.int (1 : Int32)), .val (.ref b85), .unset]) rfl k) ?_
      show own_Go _ _ _ _ (T96.setTop (mkF m 123 #[.val (.long q1), .second, .val (.long q2), .second, .val (.ref b1), .val (.long v5_9), .second, .val (.long v7_13), .second, .val (.ref b14), .val (.long v10_29), .second, .val (.int (1 : Int32)), .val (.ref b30), .val (.long v14_52), .second, .val (.int (1 : Int32)), .val (.ref b85), .unset] []))
      refine own_by (fun _ k => XS.aload X96.here hx rfl (hb hby at_123) rfl rfl k) ?_
      show own_Go _ _ _ _ (T96.setTop (mkF m 125 #[.val (.long q1), .second, .val (.long q2), .second, .val (.ref b1), .val (.long v5_9), .second, .val (.long v7_13), .second, .val (.ref b14), .val (.long v10_29), .second, .val (.int (1 : Int32)), .val (.ref b30), .val (.long v14_52), .second, .val (.int (1 : Int32)), .val (.ref b85), .unset] [(.ref b85)]))
      obtain ⟨cq105, kq105, q105a, q105b, q105c⟩ := isOf hZ e96 f103
      obtain ⟨_, _, ⟨T105, L105, k105, n105⟩, -, X105, ⟨Lc105, hQ105, l105, y105, z105⟩, st105⟩ := X96.virtualBack hx (y := (⟨"com/example/libmakespan/libmakespan/SplitMix64", "next", "()J"⟩ : MethodName)) (z := (⟨"com/example/libmakespan/libmakespan/SplitMix64", "next", "()J"⟩ : MethodName)) hown (mvT hZ (hw _ (List.mem_of_getElem? (i := 11) rfl))) (mvT hZ (hw _ (List.mem_of_getElem? (i := 12) rfl))) (notFace_of_selects (args := #[]) (mvT hZ (hw _ (List.mem_of_getElem? (i := 14) rfl)))) (mvT hZ (hw _ (List.mem_of_getElem? (i := 14) rfl))) (mvT hZ (hw _ (List.mem_of_getElem? (i := 13) rfl))) (by decide) (backOf (W := 0) (rm3 l Z a0 hw [] b85 (1234567 : Int64) h96 n0 Z96 f103 F96 ge85) hZ (hw _ (List.mem_of_getElem? (i := 15) rfl)) (hw _ (List.mem_of_getElem? (i := 2) rfl)) (by decide) (by decide)) q105a q105c (g := (mkF m 125 #[.val (.long q1), .second, .val (.long q2), .second, .val (.ref b1), .val (.long v5_9), .second, .val (.long v7_13), .second, .val (.ref b14), .val (.long v10_29), .second, .val (.int (1 : Int32)), .val (.ref b30), .val (.long v14_52), .second, .val (.int (1 : Int32)), .val (.ref b85), .unset] [(.ref b85)])) rfl (by rw [hml]; rfl) (Steps.refl _) (argsL := []) (rest := []) (lenOf own_pd1 rfl) rfl (by show 2 * 0 + _ ≤ _; exact Nat.le_of_eq rfl) (hb hby at_125) (fun _ _ => ⟨rfl, e96, Nat.le_of_ble_eq_true rfl, Nat.le_of_ble_eq_true rfl⟩)
      dsimp only [Pt.U, Pt.locs, Pt.cells, Pt.slots] at X105 l105 y105 z105 st105 hQ105
      subst l105 y105 z105
      obtain ⟨h105, e105⟩ : ∃ h, T105.heap = h := ⟨_, rfl⟩
      rw [e105] at hQ105
      obtain ⟨rfl, N105q, K105, F105⟩ := hQ105
      have N105 := Fr.app N96 N105q
      refine own_tr st105 ?_
      have f106 := f97.keep K105
      have f107 := f98.keep K105 (ninS ne86 nin0)
      have f108 := f99.keep K105
      have f109 := f100.keep K105 (ninS ne88 nin0)
      have f110 := f101.keep K105
      have f111 := f102.keep K105 (ninS ne87 nin0)
      have f112 := f103.keep K105
      have Z105 := Nat.le_trans Z96 K105.1
      show own_Go _ _ _ _ (T105.setTop (mkF m 128 #[.val (.long q1), .second, .val (.long q2), .second, .val (.ref b1), .val (.long v5_9), .second, .val (.long v7_13), .second, .val (.ref b14), .val (.long v10_29), .second, .val (.int (1 : Int32)), .val (.ref b30), .val (.long v14_52), .second, .val (.int (1 : Int32)), .val (.ref b85), .unset] [(.long (own_mix ((1234567 : Int64) + (-7046029254386353131 : Int64))))]))
      refine own_by (fun _ k => X105.ldc2Long hx hown (mvT hZ (hw _ (List.mem_of_getElem? (i := 21) rfl))) (g := (mkF m 128 #[.val (.long q1), .second, .val (.long q2), .second, .val (.ref b1), .val (.long v5_9), .second, .val (.long v7_13), .second, .val (.ref b14), .val (.long v10_29), .second, .val (.int (1 : Int32)), .val (.ref b30), .val (.long v14_52), .second, .val (.int (1 : Int32)), .val (.ref b85), .unset] [(.long (own_mix ((1234567 : Int64) + (-7046029254386353131 : Int64))))])) rfl (hb hby at_128) _ k) ?_
      show own_Go _ _ _ _ (T105.setTop (mkF m 131 #[.val (.long q1), .second, .val (.long q2), .second, .val (.ref b1), .val (.long v5_9), .second, .val (.long v7_13), .second, .val (.ref b14), .val (.long v10_29), .second, .val (.int (1 : Int32)), .val (.ref b30), .val (.long v14_52), .second, .val (.int (1 : Int32)), .val (.ref b85), .unset] [(.long (6457827717110365317 : Int64)), (.long (own_mix ((1234567 : Int64) + (-7046029254386353131 : Int64))))]))
      refine own_by (fun _ k => XS.lcmp X105.here hx rfl (hb hby at_131) rfl k) ?_
      show own_Go _ _ _ _ (T105.setTop (mkF m 132 #[.val (.long q1), .second, .val (.long q2), .second, .val (.ref b1), .val (.long v5_9), .second, .val (.long v7_13), .second, .val (.ref b14), .val (.long v10_29), .second, .val (.int (1 : Int32)), .val (.ref b30), .val (.long v14_52), .second, .val (.int (1 : Int32)), .val (.ref b85), .unset] [(.int (lcmpW (own_mix ((1234567 : Int64) + (-7046029254386353131 : Int64))) (6457827717110365317 : Int64)))]))
      refine own_by (fun _ k => XS.ifNo X105.here hx rfl (hb hby at_132) rfl ((if0 _ _).trans (teq ((lw_eq _ _).mpr (by decide +kernel))).2) k) ?_
      show own_Go _ _ _ _ (T105.setTop (mkF m 135 #[.val (.long q1), .second, .val (.long q2), .second, .val (.ref b1), .val (.long v5_9), .second, .val (.long v7_13), .second, .val (.ref b14), .val (.long v10_29), .second, .val (.int (1 : Int32)), .val (.ref b30), .val (.long v14_52), .second, .val (.int (1 : Int32)), .val (.ref b85), .unset] []))
      refine own_by (fun _ k => XS.iconst X105.here hx rfl (hb hby at_135) k) ?_
      show own_Go _ _ _ _ (T105.setTop (mkF m 136 #[.val (.long q1), .second, .val (.long q2), .second, .val (.ref b1), .val (.long v5_9), .second, .val (.long v7_13), .second, .val (.ref b14), .val (.long v10_29), .second, .val (.int (1 : Int32)), .val (.ref b30), .val (.long v14_52), .second, .val (.int (1 : Int32)), .val (.ref b85), .unset] [(.int (1 : Int32))]))
      refine own_by (fun _ k => XS.goto X105.here hx rfl (pc0 := 136) (pc' := 140) rfl (hb hby at_136) (by decide) (by decide) k) ?_
      show own_Go _ _ _ _ (T105.setTop (mkF m 140 #[.val (.long q1), .second, .val (.long q2), .second, .val (.ref b1), .val (.long v5_9), .second, .val (.long v7_13), .second, .val (.ref b14), .val (.long v10_29), .second, .val (.int (1 : Int32)), .val (.ref b30), .val (.long v14_52), .second, .val (.int (1 : Int32)), .val (.ref b85), .unset] [(.int (1 : Int32))]))
      refine own_by (fun _ k => XS.istore X105.here hx rfl (hb hby at_140) rfl (l' := #[.val (.long q1), .second, .val (.long q2), .second, .val (.ref b1), .val (.long v5_9), .second, .val (.long v7_13), .second, .val (.ref b14), .val (.long v10_29), .second, .val (.int (1 : Int32)), .val (.ref b30), .val (.long v14_52), .second, .val (.int (1 : Int32)), .val (.ref b85), .val (.int (1 : Int32))]) rfl k) ?_
      show own_Go _ _ _ _ (T105.setTop (mkF m 142 #[.val (.long q1), .second, .val (.long q2), .second, .val (.ref b1), .val (.long v5_9), .second, .val (.long v7_13), .second, .val (.ref b14), .val (.long v10_29), .second, .val (.int (1 : Int32)), .val (.ref b30), .val (.long v14_52), .second, .val (.int (1 : Int32)), .val (.ref b85), .val (.int (1 : Int32))] []))
      refine own_by (fun _ k => XS.iload X105.here hx rfl (hb hby at_142) rfl k) ?_
      show own_Go _ _ _ _ (T105.setTop (mkF m 144 #[.val (.long q1), .second, .val (.long q2), .second, .val (.ref b1), .val (.long v5_9), .second, .val (.long v7_13), .second, .val (.ref b14), .val (.long v10_29), .second, .val (.int (1 : Int32)), .val (.ref b30), .val (.long v14_52), .second, .val (.int (1 : Int32)), .val (.ref b85), .val (.int (1 : Int32))] [(.int (1 : Int32))]))
      refine own_by (fun _ k => XS.ifNo X105.here hx rfl (hb hby at_144) rfl ((if0 _ _).trans (feq (by decide)).1) k) ?_
      show own_Go _ _ _ _ (T105.setTop (mkF m 147 #[.val (.long q1), .second, .val (.long q2), .second, .val (.ref b1), .val (.long v5_9), .second, .val (.long v7_13), .second, .val (.ref b14), .val (.long v10_29), .second, .val (.int (1 : Int32)), .val (.ref b30), .val (.long v14_52), .second, .val (.int (1 : Int32)), .val (.ref b85), .val (.int (1 : Int32))] []))
      refine own_by (fun _ k => XS.iload X105.here hx rfl (hb hby at_147) rfl k) ?_
      show own_Go _ _ _ _ (T105.setTop (mkF m 149 #[.val (.long q1), .second, .val (.long q2), .second, .val (.ref b1), .val (.long v5_9), .second, .val (.long v7_13), .second, .val (.ref b14), .val (.long v10_29), .second, .val (.int (1 : Int32)), .val (.ref b30), .val (.long v14_52), .second, .val (.int (1 : Int32)), .val (.ref b85), .val (.int (1 : Int32))] [(.int (1 : Int32))]))
      refine own_by (fun _ k => XS.ifNo X105.here hx rfl (hb hby at_149) rfl ((if0 _ _).trans (feq (by decide)).1) k) ?_
      show own_Go _ _ _ _ (T105.setTop (mkF m 152 #[.val (.long q1), .second, .val (.long q2), .second, .val (.ref b1), .val (.long v5_9), .second, .val (.long v7_13), .second, .val (.ref b14), .val (.long v10_29), .second, .val (.int (1 : Int32)), .val (.ref b30), .val (.long v14_52), .second, .val (.int (1 : Int32)), .val (.ref b85), .val (.int (1 : Int32))] []))
      refine own_by (fun _ k => XS.iload X105.here hx rfl (hb hby at_152) rfl k) ?_
      show own_Go _ _ _ _ (T105.setTop (mkF m 154 #[.val (.long q1), .second, .val (.long q2), .second, .val (.ref b1), .val (.long v5_9), .second, .val (.long v7_13), .second, .val (.ref b14), .val (.long v10_29), .second, .val (.int (1 : Int32)), .val (.ref b30), .val (.long v14_52), .second, .val (.int (1 : Int32)), .val (.ref b85), .val (.int (1 : Int32))] [(.int (1 : Int32))]))
      refine own_by (fun _ k => XS.ifNo X105.here hx rfl (hb hby at_154) rfl ((if0 _ _).trans (feq (by decide)).1) k) ?_
      show own_Go _ _ _ _ (T105.setTop (mkF m 157 #[.val (.long q1), .second, .val (.long q2), .second, .val (.ref b1), .val (.long v5_9), .second, .val (.long v7_13), .second, .val (.ref b14), .val (.long v10_29), .second, .val (.int (1 : Int32)), .val (.ref b30), .val (.long v14_52), .second, .val (.int (1 : Int32)), .val (.ref b85), .val (.int (1 : Int32))] []))
      refine own_by (fun _ k => XS.iconst X105.here hx rfl (hb hby at_157) k) ?_
      show own_Go _ _ _ _ (T105.setTop (mkF m 158 #[.val (.long q1), .second, .val (.long q2), .second, .val (.ref b1), .val (.long v5_9), .second, .val (.long v7_13), .second, .val (.ref b14), .val (.long v10_29), .second, .val (.int (1 : Int32)), .val (.ref b30), .val (.long v14_52), .second, .val (.int (1 : Int32)), .val (.ref b85), .val (.int (1 : Int32))] [(.int (1 : Int32))]))
      refine own_by (fun _ k => XS.goto X105.here hx rfl (pc0 := 158) (pc' := 162) rfl (hb hby at_158) (by decide) (by decide) k) ?_
      show own_Go _ _ _ _ (T105.setTop (mkF m 162 #[.val (.long q1), .second, .val (.long q2), .second, .val (.ref b1), .val (.long v5_9), .second, .val (.long v7_13), .second, .val (.ref b14), .val (.long v10_29), .second, .val (.int (1 : Int32)), .val (.ref b30), .val (.long v14_52), .second, .val (.int (1 : Int32)), .val (.ref b85), .val (.int (1 : Int32))] [(.int (1 : Int32))]))
      exact own_retN X105 hx Bd.notSynchronized e105 Bd.returns (by simp) (hb hby at_162) (⟨rfl, N105⟩) (by decide) (by decide)
set_option maxRecDepth 65536 in
set_option maxHeartbeats 40000000 in
theorem comes_1 {Post : Tables → Env → Array Value → State → Outcome → State → Prop} (hpost : ∀ tb e args s v u, (limb_1_1.after args s (.returned v) u = true ∧ limb_1_2.after args s (.returned v) u = true ∧ True) → FrameEnd s (.returned v) u (Jvm.fieldLocs frame_1_writes args s ++ Jvm.arrayLocs frame_1_arrays args s ++ Jvm.staticLocs frame_1_statics s) 16 128 → Post tb e args s (.returned v) u) :
    ArmFor flags0 classFile x code maxLocals ret World_1 tables_1 room_1 Calls_1 rest_1 Pre_1 Post := by
  intro l hfl _ _ p e ha hc hk s m args below hf hA hF happ hP
  obtain ⟨hcalls, hrest, hpre⟩ := hP
  obtain ⟨-, -, -, hnamed, -, -, -, hat⟩ := (Spec.applies_iff hf).mp happ
  obtain ⟨hg, hn⟩ := and_e (Cond.before_iff.mp (show (Jvm.Cond.and given_1 narrow_1).before args s = true from hpre))
  obtain ⟨g1, g2⟩ := and_e hg
  obtain ⟨g3, g4⟩ := and_e g2
  obtain ⟨w0, w1, rfl⟩ : ∃ w0 w1 : Value, args = #[w0, w1] := by
    have hs : args.size = 2 := by simpa [Cond.value, given_1] using g1
    obtain ⟨L⟩ := args
    match L, hs with
    | [w0, w1], _ => exact ⟨w0, w1, rfl⟩
  have hw := fun d (hd : d ∈ tables_1) => atoms_spec (ws := Jvm.Cond.code x code maxLocals ret :: tables_1) hat d (List.mem_cons_of_mem _ hd)
  have hfit : Fit s := fun {y c} hc i hi => by
    obtain ⟨ha, rfl⟩ := Array.getElem?_eq_some_iff.mp hc
    have q := List.all_eq_true.mp ((Array.all_eq_true_iff_forall_mem.mp hF) _ (Array.getElem_mem ha)) i (List.mem_range.mpr hi)
    simpa [Array.getElem?_eq_getElem hi] using q
  obtain ⟨i0, ei0⟩ := isL_v g3
  obtain rfl : w0 = (.long i0) := Option.some.inj ei0
  obtain ⟨i1, ei1⟩ := isL_v g4
  obtain rfl : w1 = (.long i1) := Option.some.inj ei1
  obtain ⟨n, o, h1, h2, h3, _, L, rfl, ⟨rfl, N⟩, hq⟩ := rm0 l s _ hw tables_1 i0 i1 s.heap s.heap.size (Nat.le_refl _) p e ha hc hk s m _ below hf ((Spec.applies_iff_loose hf).mp happ).1 ⟨rfl, State.Warmed39.refl s, rfl⟩ trivial
  refine ⟨n, _, h1, h2, h3, hpost _ _ _ _ _ _ ⟨Cond.after_iff.mpr rfl, Cond.after_iff.mpr (eq_i res_at (Term.int_eval (1)) rfl), trivial⟩ ⟨hq.1, hq.2.1, (hq.2.2.sift fun y hy => Or.inr (N y hy)).mono (by decide) (by decide)⟩⟩
theorem main_1_1 : Claimed_1_1 := comes_1 fun _ _ _ _ _ _ h hF => ⟨h.1, hF⟩
theorem main_1_2 : Claimed_1_2 := comes_1 fun _ _ _ _ _ _ h hF => ⟨h.2.1, hF⟩
end Jvm.Pilot.@@N@@
namespace Jvm.Pilot.@@N@@
open Jvm Jvm.ClassFile Sem Op Lib Jvm.Free Jvm.Stand Jvm.Pilot.@@N@@.Jvm.D
/-! MADE BY PROGRAM (witnessworld.py) out of the Statement's table words and the real class files: 9 classes; the members and pool entries that the words name. The judged class is class 1, her method 1. -/
namespace start1
open Jvm.ClassFile
def u (s : String) : CpInfo := .utf8 (stringToUtf16 s)
/-- a pool by its gaps: so many unusable entries, then the entry; so many at the end -/
def gap : Nat → List CpInfo → List CpInfo
  | 0, r => r
  | n + 1, r => .unusable :: gap n r
def poolList (es : List (Nat × CpInfo)) (last : Nat) : List CpInfo := es.foldr (fun e r => gap e.1 (e.2 :: r)) (gap last [])
def pool (es : List (Nat × CpInfo)) (last : Nat) : Array CpInfo := ⟨poolList es last⟩
def fileOf (pool : Array CpInfo) (this : Nat) (attrs : Array Attribute := #[]) (ms : Array MethodInfo := #[]) (fl : Nat := 33) (sup : Nat := 0) (ifs : Array Nat := #[]) (fds : Array FieldInfo := #[]) : ClassFile where
  minorVersion := 0
  majorVersion := 65
  constantPool := pool
  accessFlags := fl
  thisClass := this
  superClass := sup
  interfaces := ifs
  fields := fds
  methods := ms
  attributes := attrs
def plain (name : String) (sup : Option ClassId) : Class where
  name := name
  kind := .ordinary
  loader := none
  accessFlags := 33
  super := sup
  interfaces := #[]
  cf := none
  fields := #[]
  methods := #[]
  instanceTypes := #[]
  staticTypes := #[]
  resolved := #[]
  callSites := []
  init := .initialized
  statics := none
  mirror := none

def pool0 : Array CpInfo := pool [(5, u "<init>"), (0, u "()V"), (1, .class_ 10), (1, u "java/lang/Object")] 113

def k0c0 : Code := { maxStack := 0, maxLocals := 1, code := object_method_1_code, exceptionTable := #[], attributes := #[] }
def k0m0 : Method := { name := "<init>", desc := "()V", sig := { parameters := [], returnType := none }, accessFlags := 1, code := some k0c0 }
/-- java/lang/Object -/
def k0 : Class := { plain "java/lang/Object" none with
  accessFlags := 33
  interfaces := #[]
  cf := some (fileOf pool0 8 #[] #[{ accessFlags := 1, nameIndex := 5, descriptorIndex := 6, attributes := #[] }] 33 0 #[] #[])
  fields := #[]
  methods := #[k0m0]
  instanceTypes := #[]
  staticTypes := #[]
  resolved := Array.replicate 124 none
  statics := none }

def pool1 : Array CpInfo := pool [(2, .class_ 4), (1, u "java/lang/Object"), (0, u "<init>"), (0, u "()V"), (0, .class_ 8), (0, u "com/example/libmakespan/libmakespan/SplitMix64"), (0, .methodref 7 10), (0, .nameAndType 5 11), (0, u "(J)V"), (0, .methodref 7 13), (0, .nameAndType 14 15), (0, u "next"), (0, u "()J"), (0, .long 11400714819323198485), (1, .long 1234567), (1, .long 6457827717110365317), (1, .class_ 23), (0, u "com/example/libmakespan/libmakespan/SplitMix64NextPinLaw"), (2, u "law"), (0, u "(JJ)Z")] 3

def k1m0 : Method := { name := "<init>", desc := "()V", sig := { parameters := [], returnType := none }, accessFlags := 2, code := none }
def k1c1 : Code := { maxStack := 6, maxLocals := 19, code := code, exceptionTable := #[], attributes := #[] }
def k1m1 : Method := { name := "law", desc := "(JJ)Z", sig := { parameters := [.long, .long], returnType := some .boolean }, accessFlags := 9, code := some k1c1 }
/-- com/example/libmakespan/libmakespan/SplitMix64NextPinLaw -/
def k1 : Class := { plain "com/example/libmakespan/libmakespan/SplitMix64NextPinLaw" (some 0) with
  accessFlags := 49
  interfaces := #[]
  cf := some (fileOf pool1 22 #[] #[{ accessFlags := 2, nameIndex := 5, descriptorIndex := 6, attributes := #[] }, { accessFlags := 9, nameIndex := 26, descriptorIndex := 27, attributes := #[] }] 49 2 #[] #[])
  fields := #[]
  methods := #[k1m0, k1m1]
  instanceTypes := #[]
  staticTypes := #[]
  resolved := Array.replicate 31 none
  statics := none }

def pool2 : Array CpInfo := pool [(1, .methodref 2 3), (0, .class_ 4), (0, .nameAndType 5 6), (0, u "java/lang/Object"), (0, u "<init>"), (0, u "()V"), (0, .fieldref 8 9), (0, .class_ 10), (0, .nameAndType 11 12), (0, u "com/example/libmakespan/libmakespan/SplitMix64"), (0, u "state"), (0, u "J"), (0, .long 11400714819323198485), (1, .long 13787848793156543929), (1, .long 10723151780598845931), (3, u "next"), (0, u "()J"), (8, u "GAMMA"), (1, u "(J)V")] 9

def k2c0 : Code := { maxStack := 3, maxLocals := 3, code := prog_36_method_1_code, exceptionTable := #[], attributes := #[] }
def k2m0 : Method := { name := "<init>", desc := "(J)V", sig := { parameters := [.long], returnType := none }, accessFlags := 0, code := some k2c0 }
def k2c1 : Code := { maxStack := 5, maxLocals := 3, code := prog_36_method_2_code, exceptionTable := #[], attributes := #[] }
def k2m1 : Method := { name := "next", desc := "()J", sig := { parameters := [], returnType := some .long }, accessFlags := 0, code := some k2c1 }
/-- com/example/libmakespan/libmakespan/SplitMix64 -/
def k2 : Class := { plain "com/example/libmakespan/libmakespan/SplitMix64" (some 0) with
  accessFlags := 48
  interfaces := #[]
  cf := some (fileOf pool2 8 #[] #[{ accessFlags := 0, nameIndex := 5, descriptorIndex := 33, attributes := #[] }, { accessFlags := 0, nameIndex := 21, descriptorIndex := 22, attributes := #[] }] 48 2 #[] #[{ accessFlags := 26, nameIndex := 31, descriptorIndex := 12, attributes := #[] }, { accessFlags := 2, nameIndex := 11, descriptorIndex := 12, attributes := #[] }])
  fields := #[{ name := "GAMMA", type := .long, accessFlags := 26, slot := 0, constantValue := 0 }, { name := "state", type := .long, accessFlags := 2, slot := 0, constantValue := 0 }]
  methods := #[k2m0, k2m1]
  instanceTypes := #[.long]
  staticTypes := #[.long]
  resolved := Array.replicate 43 none
  statics := none }

def pool3 : Array CpInfo := pool [(1, u "java/lang/Cloneable"), (0, .class_ 1), (0, u "java/lang/Object"), (0, .class_ 3)] 3

/-- java/lang/Cloneable -/
def k3 : Class := { plain "java/lang/Cloneable" (some 0) with
  accessFlags := 1537
  interfaces := #[]
  cf := some (fileOf pool3 2 #[] #[] 1537 4 #[] #[])
  fields := #[]
  methods := #[]
  instanceTypes := #[]
  staticTypes := #[]
  resolved := Array.replicate 8 none
  statics := none }

def pool4 : Array CpInfo := pool [(1, u "java/io/Serializable"), (0, .class_ 1), (0, u "java/lang/Object"), (0, .class_ 3)] 3

/-- java/io/Serializable -/
def k4 : Class := { plain "java/io/Serializable" (some 0) with
  accessFlags := 1537
  interfaces := #[]
  cf := some (fileOf pool4 2 #[] #[] 1537 4 #[] #[])
  fields := #[]
  methods := #[]
  instanceTypes := #[]
  staticTypes := #[]
  resolved := Array.replicate 8 none
  statics := none }

/-- the primitive byte -/
def k5 : Class := { plain "byte" none with kind := .primitive 'B', accessFlags := 0x411 }
/-- [B -/
def k6 : Class := { plain "[B" (some 0) with kind := .array 5 .byte, interfaces := #[3, 4], accessFlags := 1041 }

/-- the primitive int -/
def k7 : Class := { plain "int" none with kind := .primitive 'I', accessFlags := 0x411 }
/-- [I -/
def k8 : Class := { plain "[I" (some 0) with kind := .array 7 .int, interfaces := #[3, 4], accessFlags := 1041 }

def heap : Heap := #[]
def classes : Array Class := #[k0, k1, k2, k3, k4, k5, k6, k7, k8]
def interned : List (Array UInt16 × Addr) := []
def slotsUsed : Nat := 0
def theMethod : MethodId := ⟨1, 1⟩
def args0 : Array Value := #[.long 5, .long 7]
def aboutOver (below : List Frame) : State where
  vm := { classes := classes, interned := interned.toArray }
  heap := heap
  slotsUsed := slotsUsed
  threads := #[{ frames := .invoking theMethod args0 :: below }]
def below0 : List Frame := [.native { method := ⟨0, 0⟩, args := #[] }]
def about1 : State := aboutOver below0
def p0 : Program := .bare "" "" ""
def e0 : Env := launch0.env 0 0 0
theorem w_frames : about1.frames = Frame.invoking theMethod args0 :: below0 := rfl
set_option maxRecDepth 65536 in
theorem w_args : argsFit about1.vm theMethod args0 = true := by decide +kernel
set_option maxRecDepth 65536 in
theorem w_heap : heapFits about1 = true := by decide +kernel
set_option maxRecDepth 65536 in
theorem w_runnable : about1.curStatus? = some .runnable := by decide +kernel
set_option maxRecDepth 65536 in
theorem w_alone : about1.alone = true := by decide +kernel
set_option maxRecDepth 65536 in
theorem w_named : about1.methodNamed? x = some theMethod := by decide +kernel
set_option maxRecDepth 65536 in
theorem w_hears : about1.hears theMethod below0 = true := by decide +kernel
set_option maxRecDepth 65536 in
theorem w_ripe : about1.ripe theMethod args0 below0 = true := by decide +kernel
theorem w_running : about1.status = .running := rfl
set_option maxRecDepth 65536 in
theorem w_room : about1.hasRoom e0.platform room_1 = true :=
  launch0.hasRoom_least _ room_1 (by decide +kernel) (by decide +kernel) (by decide +kernel) (by decide +kernel) (by decide +kernel) (by decide +kernel)
theorem allAtoms_all (ts : List Jvm.Cond) (a : Array Jvm.Value) (st : Jvm.State) : (allAtoms ts).before a st = ts.all (fun c => c.before a st) := by
  induction ts with
  | nil => rfl
  | cons c t ih =>
    show (Jvm.Cond.and c (allAtoms t)).before a st = _
    rw [Jvm.Cond.before_and, ih, List.all_cons]
def words1 : List Jvm.Cond := Jvm.Cond.code x code maxLocals ret :: tables_1
/-- a 'code' word, met by the world's own term for the bytes: nothing is compared byte by byte -/
theorem code_word {y : MethodName} {bytes : ByteArray} {mx : Nat} {rt : Option FieldType} {a : Array Value} {s : State} {m : MethodId} {meth : Method} {c : Code} (h1 : s.methodNamed? y = some m) (h2 : s.vm.method? m = some meth) (h3 : meth.code = some c) (h4 : c.code = bytes)
    (h5 : (c.maxLocals == mx && c.exceptionTable.isEmpty && decide (c.maxStack ≤ mostOperands) && decide (meth.sig.returnType = rt) && !meth.locks && decide (parseMethodDescriptor y.desc = some meth.sig)) = true) : (Jvm.Cond.code y bytes mx rt).before a s = true := by
  simp only [Bool.and_eq_true, beq_iff_eq, Bool.not_eq_true', decide_eq_true_eq] at h5
  obtain ⟨⟨⟨⟨⟨g1, g2⟩, g3⟩, g4⟩, g5⟩, g6⟩ := h5
  simp [Cond.before, Cond.holds, Cond.value, h1, h2, h3, h4, g1, g2, g3, g4, g5, g6]
def isCode : Jvm.Cond → Bool
  | .code _ _ _ _ => true
  | _ => false
theorem all_split {L : List Jvm.Cond} {P : Jvm.Cond → Bool} (h1 : L.all (fun c => isCode c || P c) = true) (h2 : ∀ c ∈ L.filter isCode, P c = true) : L.all P = true := by
  refine List.all_eq_true.mpr fun c hc => ?_
  have h := List.all_eq_true.mp h1 c hc
  rcases Bool.eq_false_or_eq_true (isCode c) with hi | hi
  · exact h2 c (List.mem_filter.mpr ⟨hc, hi⟩)
  · simpa [hi] using h
set_option maxRecDepth 65536 in
theorem w_c0 : (Jvm.Cond.code x code maxLocals ret).before args0 about1 = true := code_word (m := ⟨1, 1⟩) (meth := k1m1) (c := k1c1) (by decide +kernel) rfl rfl rfl (by decide +kernel)
set_option maxRecDepth 65536 in
theorem w_c1 : (Jvm.Cond.code ({ cls := "com/example/libmakespan/libmakespan/SplitMix64", name := "<init>", desc := "(J)V" } : Jvm.MethodName) prog_36_method_1_code (3 : Nat) (Option.none : Option Jvm.ClassFile.FieldType)).before args0 about1 = true := code_word (m := ⟨2, 0⟩) (meth := k2m0) (c := k2c0) (by decide +kernel) rfl rfl rfl (by decide +kernel)
set_option maxRecDepth 65536 in
theorem w_c2 : (Jvm.Cond.code ({ cls := "java/lang/Object", name := "<init>", desc := "()V" } : Jvm.MethodName) object_method_1_code (1 : Nat) (Option.none : Option Jvm.ClassFile.FieldType)).before args0 about1 = true := code_word (m := ⟨0, 0⟩) (meth := k0m0) (c := k0c0) (by decide +kernel) rfl rfl rfl (by decide +kernel)
set_option maxRecDepth 65536 in
theorem w_c3 : (Jvm.Cond.code ({ cls := "com/example/libmakespan/libmakespan/SplitMix64", name := "next", desc := "()J" } : Jvm.MethodName) prog_36_method_2_code (3 : Nat) (Option.some Jvm.ClassFile.FieldType.long)).before args0 about1 = true := code_word (m := ⟨2, 1⟩) (meth := k2m1) (c := k2c1) (by decide +kernel) rfl rfl rfl (by decide +kernel)
def codes1 : List Jvm.Cond := [Jvm.Cond.code x code maxLocals ret, Jvm.Cond.code ({ cls := "com/example/libmakespan/libmakespan/SplitMix64", name := "<init>", desc := "(J)V" } : Jvm.MethodName) prog_36_method_1_code (3 : Nat) (Option.none : Option Jvm.ClassFile.FieldType), Jvm.Cond.code ({ cls := "java/lang/Object", name := "<init>", desc := "()V" } : Jvm.MethodName) object_method_1_code (1 : Nat) (Option.none : Option Jvm.ClassFile.FieldType), Jvm.Cond.code ({ cls := "com/example/libmakespan/libmakespan/SplitMix64", name := "next", desc := "()J" } : Jvm.MethodName) prog_36_method_2_code (3 : Nat) (Option.some Jvm.ClassFile.FieldType.long)]
set_option maxRecDepth 65536 in
theorem codes_eq : words1.filter isCode = codes1 := rfl
theorem w_codes : ∀ c ∈ words1.filter isCode, c.before args0 about1 = true := by
  rw [codes_eq]
  intro c hc
  simp only [codes1, List.mem_cons, List.not_mem_nil, or_false] at hc
  rcases hc with rfl | rfl | rfl | rfl
  · exact w_c0
  · exact w_c1
  · exact w_c2
  · exact w_c3
set_option maxRecDepth 65536 in
theorem w_t1 : words1.all (fun c => isCode c || c.before args0 about1) = true := by decide +kernel
theorem w_tables : (allAtoms (Jvm.Cond.code x code maxLocals ret :: tables_1)).before args0 about1 = true := by
  rw [allAtoms_all]
  show words1.all (fun c => c.before args0 about1) = true
  refine all_split ?_ w_codes
  rw [w_t1]
set_option maxRecDepth 65536 in
theorem w_case : (Jvm.Cond.and given_1 narrow_1).before args0 about1 = true := by decide +kernel
theorem w_applies : (headSpec (Jvm.Cond.code x code maxLocals ret :: tables_1) room_1).applies x e0.platform about1 = true :=
  (Spec.applies_iff w_frames).mpr ⟨w_running, w_runnable, w_alone, w_named, w_hears, w_ripe, w_room, w_tables⟩
theorem atStart : AtStart classFile x code maxLocals ret World_1 tables_1 room_1 Calls_1 rest_1 Pre_1 launch0 p0 e0 about1 theMethod args0 below0 :=
  ⟨lists_1, trivial, launch0.admits_env _ _ _, launch0.least_env, fairChoices_fair.cas, fairChoices_fair.clock, w_frames, w_args, w_heap, w_applies, trivial, trivial, w_case⟩
end start1
theorem witness_1 : WitnessClaimed_1 := ⟨start1.p0, start1.e0, start1.about1, start1.theMethod, start1.args0, start1.below0, start1.atStart⟩
end Jvm.Pilot.@@N@@
