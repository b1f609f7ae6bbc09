import JvmDerived
import JvmDerived.Pilot.@@N@@Statement
import JvmDerived.Pilot.@@N@@Code
set_option linter.unusedVariables false
set_option linter.unusedSimpArgs false
namespace Jvm.Pilot.@@N@@
open Jvm Jvm.ClassFile Sem Op Lib Jvm.Free Jvm.Stand Jvm.LawKit Jvm.RoadKit Bundle Jvm.Pilot.@@N@@.Jvm.D
section OwnGo
/-! a run that comes to its end: what a body's walk owes, of any state on the way -/
def own_Go (tb : Tables) (e : Env) (below : List Frame) (Q : Outcome → State → Prop) (U : State) : Prop := ∃ s₂ o, Steps tb e below U s₂ ∧ s₂.status = .running ∧ Ended s₂ below o ∧ Q o s₂
theorem own_by {tb : Tables} {e : Env} {below : List Frame} {Q : Outcome → State → Prop} {U V : State} (h : ∀ t, Steps tb e below V t → Steps tb e below U t) (k : own_Go tb e below Q V) : own_Go tb e below Q U := by
  obtain ⟨s2, o, h1, h2⟩ := k; exact ⟨s2, o, h _ h1, h2⟩
theorem own_tr {tb : Tables} {e : Env} {below : List Frame} {Q : Outcome → State → Prop} {U V : State} (h : Steps tb e below U V) (k : own_Go tb e below Q V) : own_Go tb e below Q U := own_by (fun _ q => h.trans q) k
theorem own_gen {α : Type} {x y : α} (h : x = y) {tb : Tables} {e : Env} {below : List Frame} {Q : Outcome → State → Prop} (F : α → State) (k : own_Go tb e below Q (F y)) : own_Go tb e below Q (F x) := h ▸ k
def own_ap (f : Option Value → Heap → List Loc → Prop) (v : Option Value) (h : Heap) (L : List Loc) : Prop := f v h L
/-- what a body's contract says of its end -/
def own_Q (s : State) (Qh : Option Value → Heap → List Loc → Prop) (C S : Nat) (o : Outcome) (U' : State) : Prop := ∃ v L, o = .returned v ∧ Qh v U'.heap L ∧ FrameEnd s o U' L C S
variable {p : Program} {l : Launch} {e : Env} {R : Room} {s : State} {m : MethodId} {args : Array Value} {below : List Frame} {meth : Method} {c : Code} {T : State} {locs : List Loc} {cells slots : Nat} {Z : State} {h : Heap} {a : Addr} {pc : Nat} {Ls : Array Slot} {rest : List Value} {Qh : Option Value → Heap → List Loc → Prop} {C S : Nat} {Q : Outcome → State → Prop}
theorem own_leave (X : Stand p l e R s m args below meth c T locs cells slots) (hlk : meth.locks = false) {v : Option Value} (hv : meth.sig.returnType = none → v = none) {f : JFrame}
    (hst : ∀ fs, (∀ (f : JFrame) (acts : List Action), f.method = m → f.locked = none → f.entered = [] → (doReturn e (T.setTop f) acts v).1 = T.setFrames fs) → Steps p.tables e below (T.setTop f) (T.setFrames fs))
    (hq : Qh v T.heap locs) (hC : cells ≤ C) (hS : slots ≤ S) : own_Go p.tables e below (own_Q s Qh C S) (T.setTop f) := by
  obtain ⟨fs, hr, hrun, hended, hW, hsame⟩ := X.leave (v := v) hv hlk
  exact ⟨_, _, hst fs hr, hrun, hended, _, _, rfl, hq, ⟨_, rfl⟩, hW, hsame.mono hC hS⟩
theorem own_retI (X : Stand p l e R s m args below meth c T locs cells slots) (hx : p.tables.exec = Jvm.exec) (hlk : meth.locks = false) (eT : T.heap = h) (hret : meth.sig.returnType = some .int) {z : Int32} (hd : decode c.code pc = .ok (.ireturn, 1))
    (hq : Qh (some (.int z)) h locs) (hC : cells ≤ C) (hS : slots ≤ S) : own_Go p.tables e below (own_Q s Qh C S) (T.setTop (mkF m pc Ls (.int z :: rest))) :=
  own_leave X hlk (v := some (.int z)) (fun q => by rw [hret] at q; cases q) (fun fs hr => retOut X hx hret rfl (Or.inl ⟨rfl, Or.inl rfl, z, rfl⟩) hd hr) (eT ▸ hq) hC hS
theorem own_retN (X : Stand p l e R s m args below meth c T locs cells slots) (hx : p.tables.exec = Jvm.exec) (hlk : meth.locks = false) (eT : T.heap = h) {t : FieldType} (hret : meth.sig.returnType = some t) (ht : t = .boolean ∨ t = .byte ∨ t = .char ∨ t = .short) {z : Int32} (hd : decode c.code pc = .ok (.ireturn, 1))
    (hq : Qh (some (.int (nar t z))) h locs) (hC : cells ≤ C) (hS : slots ≤ S) : own_Go p.tables e below (own_Q s Qh C S) (T.setTop (mkF m pc Ls (.int z :: rest))) :=
  own_leave X hlk (v := some (.int (nar t z))) (fun q => by rw [hret] at q; cases q) (fun fs hr => retN X hx hret ht hd hr) (eT ▸ hq) hC hS
theorem own_retJ (X : Stand p l e R s m args below meth c T locs cells slots) (hx : p.tables.exec = Jvm.exec) (hlk : meth.locks = false) (eT : T.heap = h) (hret : meth.sig.returnType = some .long) {z : Int64} (hd : decode c.code pc = .ok (.lreturn, 1))
    (hq : Qh (some (.long z)) h locs) (hC : cells ≤ C) (hS : slots ≤ S) : own_Go p.tables e below (own_Q s Qh C S) (T.setTop (mkF m pc Ls (.long z :: rest))) :=
  own_leave X hlk (v := some (.long z)) (fun q => by rw [hret] at q; cases q) (fun fs hr => retOut X hx hret rfl (Or.inr (Or.inl ⟨rfl, rfl, z, rfl⟩)) hd hr) (eT ▸ hq) hC hS
theorem own_retA (X : Stand p l e R s m args below meth c T locs cells slots) (hx : p.tables.exec = Jvm.exec) (hlk : meth.locks = false) (eT : T.heap = h) {t : FieldType} (hret : meth.sig.returnType = some t) (ht : t.isReference = true) {w : Value} (hn : narrow t w = w) (hw : w.isRef = true) (hd : decode c.code pc = .ok (.areturn, 1))
    (hq : Qh (some w) h locs) (hC : cells ≤ C) (hS : slots ≤ S) : own_Go p.tables e below (own_Q s Qh C S) (T.setTop (mkF m pc Ls (w :: rest))) :=
  own_leave X hlk (v := some w) (fun q => by rw [hret] at q; cases q) (fun fs hr => retOut X hx hret hn (Or.inr (Or.inr (Or.inr (Or.inr ⟨rfl, ht, hw⟩)))) hd hr) (eT ▸ hq) hC hS
theorem own_retV (X : Stand p l e R s m args below meth c T locs cells slots) (hx : p.tables.exec = Jvm.exec) (hlk : meth.locks = false) (eT : T.heap = h) (hret : meth.sig.returnType = none) (hd : decode c.code pc = .ok (.return_, 1))
    (hq : Qh none h locs) (hC : cells ≤ C) (hS : slots ≤ S) : own_Go p.tables e below (own_Q s Qh C S) (T.setTop (mkF m pc Ls [])) :=
  own_leave X hlk (v := none) (fun _ => rfl) (fun fs hr => X.returnOut hx hret hd hr) (eT ▸ hq) hC hS
/-! an array by its places -/
def own_upd {α : Type} (f : Nat → α) (k : Nat) (v : α) : Nat → α := fun j => if j = k then v else f j
theorem own_upd_eq {α : Type} (f : Nat → α) (k : Nat) (v : α) : own_upd f k v k = v := by simp [own_upd]
theorem own_upd_ne {α : Type} (f : Nat → α) {k j : Nat} (v : α) (q : j ≠ k) : own_upd f k v j = f j := by simp [own_upd, q]
def own_Ar (Z : State) (h : Heap) (a : Addr) (ty : FieldType) (n : Nat) (f : Nat → Value) : Prop := ∃ cl : Cell, Arr Z h a cl ty ∧ cl.slots.size = n ∧ ∀ j, j < n → cl.slots[j]? = some (f j)
/-- ints and what is kept as ints -/
abbrev own_AI (Z : State) (h : Heap) (a : Addr) (ty : FieldType) (n : Nat) (f : Nat → Int32) : Prop := own_Ar Z h a ty n (fun j => .int (f j))
abbrev own_AJ (Z : State) (h : Heap) (a : Addr) (n : Nat) (f : Nat → Int64) : Prop := own_Ar Z h a .long n (fun j => .long (f j))
section
variable {h' : Heap} {b : Addr} {ty : FieldType} {n : Nat} {f : Nat → Value} {v : Value} {sl : Nat} {ws : List Addr}
theorem own_Ar.lt (A : own_Ar Z h a ty n f) : a < h.size := by obtain ⟨cl, q, -⟩ := A; exact q.lt
theorem own_Ar.ext (A : own_Ar Z h a ty n f) (E : Ext h h') : own_Ar Z h' a ty n f := by obtain ⟨cl, q, r⟩ := A; exact ⟨cl, q.ext E, r⟩
theorem own_Ar.other (A : own_Ar Z h a ty n f) (W : Wr h h' b sl v) (q : a ≠ b) : own_Ar Z h' a ty n f := by obtain ⟨cl, r, r'⟩ := A; exact ⟨cl, r.other W q, r'⟩
theorem own_Ar.keep (A : own_Ar Z h a ty n f) (K : Keep h h' ws) (q : a ∉ ws) : own_Ar Z h' a ty n f := by obtain ⟨cl, r, r'⟩ := A; exact ⟨cl, ⟨K.2.1 _ _ r.1 q, r.2⟩, r'⟩
theorem own_Ar.congr (A : own_Ar Z h a ty n f) {g : Nat → Value} (q : ∀ j, j < n → f j = g j) : own_Ar Z h a ty n g := by obtain ⟨cl, r, r1, r2⟩ := A; exact ⟨cl, r, r1, fun j hj => by rw [r2 j hj, q j hj]⟩
theorem own_in {j : Int32} {k n : Nat} (hk : j.toInt = (k : Int)) (hn : k < n) {cl : Cell} (S : cl.slots.size = n) : ¬ (j < 0 ∨ cl.slots.size ≤ j.toNatClampNeg) ∧ j.toNatClampNeg = k := by
  have q : j.toNatClampNeg = k := by simp [Int32.toNatClampNeg, hk]
  refine ⟨fun r => ?_, q⟩
  rcases r with r | r
  · rw [Int32.lt_iff_toInt_lt] at r; simp only [Int32.reduceToInt] at r; omega
  · omega
theorem own_Ar.set (A : own_Ar Z h a ty n f) {k : Nat} (hk : k < n) (W : Wr h h' a k v) : own_Ar Z h' a ty n (own_upd f k v) := by
  obtain ⟨cl, r, r1, r2⟩ := A
  refine ⟨_, r.same W, by rw [sz_set]; exact r1, fun j hj => ?_⟩
  show (cl.slots.setIfInBounds k v)[j]? = _
  by_cases q : j = k
  · subst q; simp [own_upd, r1, hj]
  · rw [Array.getElem?_setIfInBounds_ne (fun y => q y.symm), r2 j hj, own_upd_ne _ _ q]
end
theorem own_bal (X : Stand p l e R s m args below meth c T locs cells slots) (hx : p.tables.exec = Jvm.exec) (hZ : Z.Warmed39 s.vm) (eT : T.heap = h) {n : Nat} {f : Nat → Value} (A : own_Ar Z h a .byte n f) {j : Int32} (k : Nat) (hk : j.toInt = (k : Int)) (hn : k < n) (hd : decode c.code pc = .ok (.baload, 1)) {t : State}
    (kt : Steps p.tables e below (T.setTop (mkF m (pc + 1) Ls (f k :: rest))) t) : Steps p.tables e below (T.setTop (mkF m pc Ls (.int j :: .ref a :: rest))) t := by
  obtain ⟨cl, r, r1, r2⟩ := A
  obtain ⟨q1, q2⟩ := own_in hk hn r1
  exact X.baloadBytes hx (j := j) (v := f k) (by rw [eT]; exact r.1) (State.isArrayOf_alike hZ.alike r.2.1) r.2.2 q1 (by rw [q2]; exact r2 k hn) (g := mkF m pc Ls (.int j :: .ref a :: rest)) rfl rfl hd _ kt
theorem own_ial (X : Stand p l e R s m args below meth c T locs cells slots) (hx : p.tables.exec = Jvm.exec) (hZ : Z.Warmed39 s.vm) (eT : T.heap = h) {n : Nat} {f : Nat → Value} (A : own_Ar Z h a .int n f) {j : Int32} (k : Nat) (hk : j.toInt = (k : Int)) (hn : k < n) (hd : decode c.code pc = .ok (.iaload, 1)) {t : State}
    (kt : Steps p.tables e below (T.setTop (mkF m (pc + 1) Ls (f k :: rest))) t) : Steps p.tables e below (T.setTop (mkF m pc Ls (.int j :: .ref a :: rest))) t := by
  obtain ⟨cl, r, r1, r2⟩ := A
  obtain ⟨q1, q2⟩ := own_in hk hn r1
  exact X.iaload hx (j := j) (v := f k) (by rw [eT]; exact r.1) (State.isArrayOf_alike hZ.alike r.2.1) r.2.2 q1 (by rw [q2]; exact r2 k hn) (g := mkF m pc Ls (.int j :: .ref a :: rest)) rfl rfl hd _ kt
theorem own_lal (X : Stand p l e R s m args below meth c T locs cells slots) (hx : p.tables.exec = Jvm.exec) (hZ : Z.Warmed39 s.vm) (eT : T.heap = h) {n : Nat} {f : Nat → Value} (A : own_Ar Z h a .long n f) {j : Int32} (k : Nat) (hk : j.toInt = (k : Int)) (hn : k < n) (hd : decode c.code pc = .ok (.laload, 1)) {t : State}
    (kt : Steps p.tables e below (T.setTop (mkF m (pc + 1) Ls (f k :: rest))) t) : Steps p.tables e below (T.setTop (mkF m pc Ls (.int j :: .ref a :: rest))) t := by
  obtain ⟨cl, r, r1, r2⟩ := A
  obtain ⟨q1, q2⟩ := own_in hk hn r1
  exact X.laload hx (j := j) (v := f k) (by rw [eT]; exact r.1) (State.isArrayOf_alike hZ.alike r.2.1) r.2.2 q1 (by rw [q2]; exact r2 k hn) (g := mkF m pc Ls (.int j :: .ref a :: rest)) rfl rfl hd _ kt
theorem own_len (X : Stand p l e R s m args below meth c T locs cells slots) (hx : p.tables.exec = Jvm.exec) (hZ : Z.Warmed39 s.vm) (eT : T.heap = h) {ty : FieldType} {n : Nat} {f : Nat → Value} (A : own_Ar Z h a ty n f) (z : Int32) (hz : z = n.toInt32) (hd : decode c.code pc = .ok (.arraylength, 1)) {t : State}
    (kt : Steps p.tables e below (T.setTop (mkF m (pc + 1) Ls (.int z :: rest))) t) : Steps p.tables e below (T.setTop (mkF m pc Ls (.ref a :: rest))) t := by
  obtain ⟨cl, r, r1, r2⟩ := A
  refine X.arraylength hx (by rw [eT]; exact r.1) (State.isArrayOf_alike hZ.alike r.2.1) (g := mkF m pc Ls (.ref a :: rest)) rfl rfl hd _ ?_
  rw [r1, ← hz]; exact kt
theorem own_bas (X : Stand p l e R s m args below meth c T locs cells slots) (hx : p.tables.exec = Jvm.exec) (hZ : Z.Warmed39 s.vm) (eT : T.heap = h) {n : Nat} {f : Nat → Int32} (A : own_AI Z h a .byte n f) {j x : Int32} (k : Nat) (hk : j.toInt = (k : Int)) (hn : k < n) (hd : decode c.code pc = .ok (.bastore, 1))
    (K : ∀ T' h', Stand p l e R s m args below meth c T' (locs ++ [⟨a, k⟩]) cells slots → T'.heap = h' → Wr h h' a k (.int (nar .byte x)) → own_AI Z h' a .byte n (own_upd f k (nar .byte x)) → own_Go p.tables e below Q (T'.setTop (mkF m (pc + 1) Ls rest))) :
    own_Go p.tables e below Q (T.setTop (mkF m pc Ls (.int x :: .int j :: .ref a :: rest))) := by
  obtain ⟨cl, r, r1, r2⟩ := id A
  obtain ⟨q1, q2⟩ := own_in hk hn r1
  obtain ⟨T', h', X', e', W, st⟩ := stB X hx hZ eT r (j := j) (x := x) q1 (g := mkF m pc Ls (.int x :: .int j :: .ref a :: rest)) rfl rfl hd
  rw [q2] at X' W
  exact own_by st (K T' h' X' e' W ((A.set hn W).congr fun i hi => by simp only [own_upd]; split <;> rfl))
theorem own_ias (X : Stand p l e R s m args below meth c T locs cells slots) (hx : p.tables.exec = Jvm.exec) (hZ : Z.Warmed39 s.vm) (eT : T.heap = h) {n : Nat} {f : Nat → Int32} (A : own_AI Z h a .int n f) {j x : Int32} (k : Nat) (hk : j.toInt = (k : Int)) (hn : k < n) (hd : decode c.code pc = .ok (.iastore, 1))
    (K : ∀ T' h', Stand p l e R s m args below meth c T' (locs ++ [⟨a, k⟩]) cells slots → T'.heap = h' → Wr h h' a k (.int x) → own_AI Z h' a .int n (own_upd f k x) → own_Go p.tables e below Q (T'.setTop (mkF m (pc + 1) Ls rest))) :
    own_Go p.tables e below Q (T.setTop (mkF m pc Ls (.int x :: .int j :: .ref a :: rest))) := by
  obtain ⟨cl, r, r1, r2⟩ := id A
  obtain ⟨q1, q2⟩ := own_in hk hn r1
  obtain ⟨T', h', X', e', W, st⟩ := stI X hx hZ eT r (j := j) (x := x) q1 (g := mkF m pc Ls (.int x :: .int j :: .ref a :: rest)) rfl rfl hd
  rw [q2] at X' W
  exact own_by st (K T' h' X' e' W ((A.set hn W).congr fun i hi => by simp only [own_upd]; split <;> rfl))
theorem own_las (X : Stand p l e R s m args below meth c T locs cells slots) (hx : p.tables.exec = Jvm.exec) (hZ : Z.Warmed39 s.vm) (eT : T.heap = h) {n : Nat} {f : Nat → Int64} (A : own_AJ Z h a n f) {j : Int32} {x : Int64} (k : Nat) (hk : j.toInt = (k : Int)) (hn : k < n) (hd : decode c.code pc = .ok (.lastore, 1))
    (K : ∀ T' h', Stand p l e R s m args below meth c T' (locs ++ [⟨a, k⟩]) cells slots → T'.heap = h' → Wr h h' a k (.long x) → own_AJ Z h' a n (own_upd f k x) → own_Go p.tables e below Q (T'.setTop (mkF m (pc + 1) Ls rest))) :
    own_Go p.tables e below Q (T.setTop (mkF m pc Ls (.long x :: .int j :: .ref a :: rest))) := by
  obtain ⟨cl, r, r1, r2⟩ := id A
  obtain ⟨q1, q2⟩ := own_in hk hn r1
  obtain ⟨T', h', X', e', W, st⟩ := stJ X hx hZ eT r (j := j) (x := x) q1 (g := mkF m pc Ls (.long x :: .int j :: .ref a :: rest)) rfl rfl hd
  rw [q2] at X' W
  exact own_by st (K T' h' X' e' W ((A.set hn W).congr fun i hi => by simp only [own_upd]; split <;> rfl))
theorem own_newP (X : Stand p l e R s m args below meth c T locs cells slots) (hx : p.tables.exec = Jvm.exec) (hZ : Z.Warmed39 s.vm) {a0 : Array Value} {aty : ArrayType} (w : (Cond.arrayClass (newarray.typeOf aty)).before a0 Z = true) (eT : T.heap = h) {n : Int32} (k : Nat) (hk : n.toInt = (k : Int)) (cap : Nat) (hcap : k ≤ cap) (hb : cap * 8 ≤ 536870912) (hc : cells + 1 ≤ R.cells) (hl : slots + cap ≤ R.slots)
    (hd : decode c.code pc = .ok (.newarray aty, 2))
    (K : ∀ T' h', Stand p l e R s m args below meth c T' locs (cells + 1) (slots + cap) → T'.heap = h' → Ext h h' → own_Ar Z h' h.size (newarray.typeOf aty) k (fun _ => defaultValue (newarray.typeOf aty)) → own_Go p.tables e below Q (T'.setTop (mkF m (pc + 2) Ls (.ref h.size :: rest)))) :
    own_Go p.tables e below Q (T.setTop (mkF m pc Ls (.int n :: rest))) := by
  have q : n.toNatClampNeg = k := by simp [Int32.toNatClampNeg, hk]
  have q0 : ¬ n < 0 := by rw [Int32.lt_iff_toInt_lt]; simp only [Int32.reduceToInt]; omega
  obtain ⟨T', h', kk, X', e', E, A, st⟩ := newP X hx hZ w eT (n := n) (g := mkF m pc Ls (.int n :: rest)) rfl hd rfl q0 (cap := cap) (by rw [q]; exact hcap) hb hc hl
  refine own_by st (K T' h' X' e' E ⟨_, A, by rw [sz_new, q], fun j hj => ?_⟩)
  simp [newA, q, hj]
theorem own_size_wr {h h' : Heap} {b : Addr} {sl : Nat} {v : Value} {n0 : Nat} (W : Wr h h' b sl v) (q : n0 ≤ h.size) : n0 ≤ h'.size := by rw [W.size]; exact q
end OwnGo
abbrev own_sr (x : Int64) (k : Int32) : Int64 := ((x.toUInt64 >>> (k &&& 0x3f).toInt64.toUInt64).toInt64)
theorem own_sr_bv (x : Int64) (k : Int32) (n : Nat) (hk : k.toBitVec.toNat % 64 = n) : (own_sr x k).toBitVec = x.toBitVec >>> n := by
  obtain ⟨e, h⟩ := sm64 k n hk
  show (x.toUInt64 >>> (k &&& 0x3f).toInt64.toUInt64).toBitVec = _
  rw [UInt64.toBitVec_shiftRight]
  show x.toBitVec >>> ((k &&& 0x3f).toInt64.toBitVec % 64) = _
  rw [e, BitVec.ushiftRight_eq']
  congr 1
  simp; omega
theorem own_un (x : BitVec 64) (s : Nat) (hs : 64 ≤ 3 * s) : ((x ^^^ x >>> s) ^^^ (x ^^^ x >>> s) >>> s) ^^^ (x ^^^ x >>> s) >>> (2 * s) = x := by
  apply BitVec.eq_of_getLsbD_eq
  intro i hi
  have e1 : s + (s + i) = 2 * s + i := by omega
  have e2 : x.getLsbD (s + (2 * s + i)) = false := BitVec.getLsbD_of_ge _ _ (by omega)
  simp only [BitVec.getLsbD_xor, BitVec.getLsbD_ushiftRight, e1, e2]
  cases x.getLsbD i <;> cases x.getLsbD (s + i) <;> cases x.getLsbD (2 * s + i) <;> rfl
theorem own_unL (x : Int64) (k k2 : Int32) (s : Nat) (hs : 64 ≤ 3 * s) (hs' : s < 32) (hk : k.toBitVec.toNat % 64 = s) (hk2 : k2.toBitVec.toNat % 64 = 2 * s) :
    ((x ^^^ own_sr x k) ^^^ own_sr (x ^^^ own_sr x k) k) ^^^ own_sr (x ^^^ own_sr x k) k2 = x := by
  apply Int64.toBitVec_inj.mp
  rw [Int64.toBitVec_xor, Int64.toBitVec_xor, own_sr_bv _ k2 (2 * s) hk2, own_sr_bv _ k s hk, Int64.toBitVec_xor, own_sr_bv _ k s hk]
  exact own_un _ s hs
abbrev own_K1 : Int64 := -7046029254386353131
abbrev own_K2 : Int64 := -4658895280553007687
abbrev own_K3 : Int64 := -7723592293110705685
def own_mix (z : Int64) : Int64 := (((z ^^^ own_sr z 30) * own_K2) ^^^ own_sr ((z ^^^ own_sr z 30) * own_K2) 27) * own_K3 ^^^ own_sr ((((z ^^^ own_sr z 30) * own_K2) ^^^ own_sr ((z ^^^ own_sr z 30) * own_K2) 27) * own_K3) 31
theorem own_un30 (x : Int64) : ((x ^^^ own_sr x 30) ^^^ own_sr (x ^^^ own_sr x 30) 30) ^^^ own_sr (x ^^^ own_sr x 30) 60 = x := own_unL x 30 60 30 (by decide) (by decide) (by decide) (by decide)
theorem own_un27 (x : Int64) : ((x ^^^ own_sr x 27) ^^^ own_sr (x ^^^ own_sr x 27) 27) ^^^ own_sr (x ^^^ own_sr x 27) 54 = x := own_unL x 27 54 27 (by decide) (by decide) (by decide) (by decide)
theorem own_un31 (x : Int64) : ((x ^^^ own_sr x 31) ^^^ own_sr (x ^^^ own_sr x 31) 31) ^^^ own_sr (x ^^^ own_sr x 31) 62 = x := own_unL x 31 62 31 (by decide) (by decide) (by decide) (by decide)
abbrev own_nw (c x : Int64) : Int64 := x * ((2 : Int64) - c * x)
def own_inv (c : Int64) : Int64 := own_nw c (own_nw c (own_nw c (own_nw c (own_nw c c))))
theorem own_i1 : own_K1 * own_inv own_K1 = 1 := by decide +kernel
theorem own_i2 : own_K2 * own_inv own_K2 = 1 := by decide +kernel
theorem own_i3 : own_K3 * own_inv own_K3 = 1 := by decide +kernel
theorem own_hash1 (p : Int32) (a b c : Int64) (h1 : (p + (1 : Int32)).toInt64 * (-7046029254386353131 : Int64) = a) (h2 : (a ^^^ own_sr a 30) * (-4658895280553007687 : Int64) = b) (h3 : (b ^^^ own_sr b 27) * (-7723592293110705685 : Int64) = c) : c ^^^ own_sr c 31 = own_mix ((p + 1).toInt64 * own_K1) := by
  subst h1; subst h2; subst h3; rfl
theorem own_inv1 (c a1 a2 a3 a4 a5 : Int64) (h1 : c * ((2 : Int64) - c * c) = a1) (h2 : a1 * ((2 : Int64) - c * a1) = a2) (h3 : a2 * ((2 : Int64) - c * a2) = a3) (h4 : a3 * ((2 : Int64) - c * a3) = a4) (h5 : a4 * ((2 : Int64) - c * a4) = a5) : a5 = own_inv c := by
  subst h1; subst h2; subst h3; subst h4; subst h5; rfl
theorem own_fin (p : Int32) (h z1 z2 z3 z4 z5 z6 w : Int64) (e0 : own_mix ((p + 1).toInt64 * own_K1) = h) (e1 : (h ^^^ own_sr h 31) ^^^ own_sr h 62 = z1) (e2 : z1 * own_inv own_K3 = z2) (e3 : (z2 ^^^ own_sr z2 27) ^^^ own_sr z2 54 = z3) (e4 : z3 * own_inv own_K2 = z4)
    (e5 : (z4 ^^^ own_sr z4 30) ^^^ own_sr z4 60 = z5) (e6 : z5 * own_inv own_K1 = z6) (e7 : (p + (1 : Int32)).toInt64 = w) : z6 = w := by
  rw [← e0, own_mix, own_un31] at e1
  rw [← e1, Int64.mul_assoc, own_i3, Int64.mul_one] at e2
  rw [← e2, own_un27] at e3
  rw [← e3, Int64.mul_assoc, own_i2, Int64.mul_one] at e4
  rw [← e4, own_un30] at e5
  rw [← e5, Int64.mul_assoc, own_i1, Int64.mul_one] at e6
  exact e6.symm.trans e7
theorem own_pd0 : parseMethodDescriptor "(I)J" = some ⟨[.int], some .long⟩ := by decide +kernel
theorem own_pd1 : parseMethodDescriptor "(J)J" = some ⟨[.long], some .long⟩ := by decide +kernel
theorem d1_0 : decode prog_60_method_6_code 0 = .ok (.iload_n 0, 1) := by decide +kernel
theorem d1_1 : decode prog_60_method_6_code 1 = .ok (.iconst 1, 1) := by decide +kernel
theorem d1_2 : decode prog_60_method_6_code 2 = .ok (.iadd, 1) := by decide +kernel
theorem d1_3 : decode prog_60_method_6_code 3 = .ok (.i2l, 1) := by decide +kernel
theorem d1_4 : decode prog_60_method_6_code 4 = .ok (.ldc2_w 15, 3) := by decide +kernel
theorem d1_7 : decode prog_60_method_6_code 7 = .ok (.lmul, 1) := by decide +kernel
theorem d1_8 : decode prog_60_method_6_code 8 = .ok (.lstore_n 1, 1) := by decide +kernel
theorem d1_9 : decode prog_60_method_6_code 9 = .ok (.lload_n 1, 1) := by decide +kernel
theorem d1_10 : decode prog_60_method_6_code 10 = .ok (.lload_n 1, 1) := by decide +kernel
theorem d1_11 : decode prog_60_method_6_code 11 = .ok (.bipush 30, 2) := by decide +kernel
theorem d1_13 : decode prog_60_method_6_code 13 = .ok (.lushr, 1) := by decide +kernel
theorem d1_14 : decode prog_60_method_6_code 14 = .ok (.lxor, 1) := by decide +kernel
theorem d1_15 : decode prog_60_method_6_code 15 = .ok (.ldc2_w 17, 3) := by decide +kernel
theorem d1_18 : decode prog_60_method_6_code 18 = .ok (.lmul, 1) := by decide +kernel
theorem d1_19 : decode prog_60_method_6_code 19 = .ok (.lstore_n 1, 1) := by decide +kernel
theorem d1_20 : decode prog_60_method_6_code 20 = .ok (.lload_n 1, 1) := by decide +kernel
theorem d1_21 : decode prog_60_method_6_code 21 = .ok (.lload_n 1, 1) := by decide +kernel
theorem d1_22 : decode prog_60_method_6_code 22 = .ok (.bipush 27, 2) := by decide +kernel
theorem d1_24 : decode prog_60_method_6_code 24 = .ok (.lushr, 1) := by decide +kernel
theorem d1_25 : decode prog_60_method_6_code 25 = .ok (.lxor, 1) := by decide +kernel
theorem d1_26 : decode prog_60_method_6_code 26 = .ok (.ldc2_w 19, 3) := by decide +kernel
theorem d1_29 : decode prog_60_method_6_code 29 = .ok (.lmul, 1) := by decide +kernel
theorem d1_30 : decode prog_60_method_6_code 30 = .ok (.lstore_n 1, 1) := by decide +kernel
theorem d1_31 : decode prog_60_method_6_code 31 = .ok (.lload_n 1, 1) := by decide +kernel
theorem d1_32 : decode prog_60_method_6_code 32 = .ok (.lload_n 1, 1) := by decide +kernel
theorem d1_33 : decode prog_60_method_6_code 33 = .ok (.bipush 31, 2) := by decide +kernel
theorem d1_35 : decode prog_60_method_6_code 35 = .ok (.lushr, 1) := by decide +kernel
theorem d1_36 : decode prog_60_method_6_code 36 = .ok (.lxor, 1) := by decide +kernel
theorem d1_37 : decode prog_60_method_6_code 37 = .ok (.lreturn, 1) := by decide +kernel
theorem pn_1 : plainName "com/example/sonde/sonde/automata/LtlSets" = true := by first | (simp [plainName, overriddenIn]; done) | decide +kernel
theorem d2_0 : decode method_2_code 0 = .ok (.lload_n 0, 1) := by decide +kernel
theorem d2_1 : decode method_2_code 1 = .ok (.lstore_n 2, 1) := by decide +kernel
theorem d2_2 : decode method_2_code 2 = .ok (.lload_n 2, 1) := by decide +kernel
theorem d2_3 : decode method_2_code 3 = .ok (.ldc2_w 7, 3) := by decide +kernel
theorem d2_6 : decode method_2_code 6 = .ok (.lload_n 0, 1) := by decide +kernel
theorem d2_7 : decode method_2_code 7 = .ok (.lload_n 2, 1) := by decide +kernel
theorem d2_8 : decode method_2_code 8 = .ok (.lmul, 1) := by decide +kernel
theorem d2_9 : decode method_2_code 9 = .ok (.lsub, 1) := by decide +kernel
theorem d2_10 : decode method_2_code 10 = .ok (.lmul, 1) := by decide +kernel
theorem d2_11 : decode method_2_code 11 = .ok (.lstore_n 2, 1) := by decide +kernel
theorem d2_12 : decode method_2_code 12 = .ok (.lload_n 2, 1) := by decide +kernel
theorem d2_13 : decode method_2_code 13 = .ok (.ldc2_w 7, 3) := by decide +kernel
theorem d2_16 : decode method_2_code 16 = .ok (.lload_n 0, 1) := by decide +kernel
theorem d2_17 : decode method_2_code 17 = .ok (.lload_n 2, 1) := by decide +kernel
theorem d2_18 : decode method_2_code 18 = .ok (.lmul, 1) := by decide +kernel
theorem d2_19 : decode method_2_code 19 = .ok (.lsub, 1) := by decide +kernel
theorem d2_20 : decode method_2_code 20 = .ok (.lmul, 1) := by decide +kernel
theorem d2_21 : decode method_2_code 21 = .ok (.lstore_n 2, 1) := by decide +kernel
theorem d2_22 : decode method_2_code 22 = .ok (.lload_n 2, 1) := by decide +kernel
theorem d2_23 : decode method_2_code 23 = .ok (.ldc2_w 7, 3) := by decide +kernel
theorem d2_26 : decode method_2_code 26 = .ok (.lload_n 0, 1) := by decide +kernel
theorem d2_27 : decode method_2_code 27 = .ok (.lload_n 2, 1) := by decide +kernel
theorem d2_28 : decode method_2_code 28 = .ok (.lmul, 1) := by decide +kernel
theorem d2_29 : decode method_2_code 29 = .ok (.lsub, 1) := by decide +kernel
theorem d2_30 : decode method_2_code 30 = .ok (.lmul, 1) := by decide +kernel
theorem d2_31 : decode method_2_code 31 = .ok (.lstore_n 2, 1) := by decide +kernel
theorem d2_32 : decode method_2_code 32 = .ok (.lload_n 2, 1) := by decide +kernel
theorem d2_33 : decode method_2_code 33 = .ok (.ldc2_w 7, 3) := by decide +kernel
theorem d2_36 : decode method_2_code 36 = .ok (.lload_n 0, 1) := by decide +kernel
theorem d2_37 : decode method_2_code 37 = .ok (.lload_n 2, 1) := by decide +kernel
theorem d2_38 : decode method_2_code 38 = .ok (.lmul, 1) := by decide +kernel
theorem d2_39 : decode method_2_code 39 = .ok (.lsub, 1) := by decide +kernel
theorem d2_40 : decode method_2_code 40 = .ok (.lmul, 1) := by decide +kernel
theorem d2_41 : decode method_2_code 41 = .ok (.lstore_n 2, 1) := by decide +kernel
theorem d2_42 : decode method_2_code 42 = .ok (.lload_n 2, 1) := by decide +kernel
theorem d2_43 : decode method_2_code 43 = .ok (.ldc2_w 7, 3) := by decide +kernel
theorem d2_46 : decode method_2_code 46 = .ok (.lload_n 0, 1) := by decide +kernel
theorem d2_47 : decode method_2_code 47 = .ok (.lload_n 2, 1) := by decide +kernel
theorem d2_48 : decode method_2_code 48 = .ok (.lmul, 1) := by decide +kernel
theorem d2_49 : decode method_2_code 49 = .ok (.lsub, 1) := by decide +kernel
theorem d2_50 : decode method_2_code 50 = .ok (.lmul, 1) := by decide +kernel
theorem d2_51 : decode method_2_code 51 = .ok (.lstore_n 2, 1) := by decide +kernel
theorem d2_52 : decode method_2_code 52 = .ok (.lload_n 2, 1) := by decide +kernel
theorem d2_53 : decode method_2_code 53 = .ok (.lreturn, 1) := by decide +kernel
theorem pn_2 : plainName "com/example/sonde/sonde/automata/LtlSetsHashPinLaw" = true := by first | (simp [plainName, overriddenIn]; done) | decide +kernel
theorem pn_0 : plainName "com/example/sonde/sonde/automata/LtlSetsHashPinLaw" = true := by first | (simp [plainName, overriddenIn]; done) | decide +kernel
set_option maxRecDepth 65536 in
set_option maxHeartbeats 40000000 in
theorem rm1 (l : Launch) (Z : State) (a0 : Array Value) (hw : ∀ d ∈ tables_1, d.before a0 Z = true) (ws : List Jvm.Cond) (p1 : Int32)  (h0 : Heap) (n0 : Nat) (Z0 : n0 ≤ h0.size) :
    MetFree l (⟨"com/example/sonde/sonde/automata/LtlSets", "hash", "(I)J"⟩ : MethodName) (head1 (Jvm.Cond.code (⟨"com/example/sonde/sonde/automata/LtlSets", "hash", "(I)J"⟩ : MethodName) prog_60_method_6_code 3 (some .long) :: ws) ({ frames := 0, cells := 0, slots := 0, locals := 0 } : Room)) (fun a U => a = #[(.int p1)] ∧ Z.Warmed39 U.vm ∧ U.heap = h0) (fun _ _ _ _ _ => True) (fun _ U o U' => ∃ v L, o = .returned v ∧ own_ap (fun v h L => v = some (.long (own_mix ((p1 + 1).toInt64 * own_K1))) ∧ Fr n0 L ∧ h = h0) v U'.heap L ∧ FrameEnd U o U' L 0 0) := by
  refine MetFree.of_bodySF (plainFor_of_name pn_1) hisR ?_
  intro p e s m args below meth c s₁ Bd hml0 hP hK
  obtain ⟨rfl, hZ, hh⟩ := hP
  have hx := Bd.exec
  have hby := Bd.bytes
  have hml : c.maxLocals = 3 := hml0
  have hown : s.vm.findClass "com/example/sonde/sonde/automata/LtlSets" = some m.cls := findClass_of_methodNamed Bd.named
  have hnm := (name_of_methodNamed Bd.named Bd.method).1
  have X0 : Stand p l e ({ frames := 0, cells := 0, slots := 0, locals := 0 } : Room) s m #[(.int p1)] below meth c s₁ [] 0 0 := Stand.of_body Bd
  have e0 : s₁.heap = h0 := by rw [← hh, Bd.state]; rfl
  have N0 := Fr.nil n0
  show own_Go p.tables e below (own_Q s (fun v h L => v = some (.long (own_mix ((p1 + 1).toInt64 * own_K1))) ∧ Fr n0 L ∧ h = h0) 0 0) (s₁.setTop (entryFrame m #[(.int p1)] 3))
  rw [show entryFrame m #[(.int p1)] 3 = mkF m 0 #[.val (.int p1), .unset, .unset] [] from by first | (simp [entryFrame, mkF, argsToLocals, Value.category]; done) | rfl]
  show own_Go _ _ _ _ (s₁.setTop (mkF m 0 #[.val (.int p1), .unset, .unset] []))
  refine own_by (fun _ k => XS.iloadN X0.here hx rfl (hb hby d1_0) rfl k) ?_
  show own_Go _ _ _ _ (s₁.setTop (mkF m 1 #[.val (.int p1), .unset, .unset] [(.int p1)]))
  refine own_by (fun _ k => XS.iconst X0.here hx rfl (hb hby d1_1) k) ?_
  show own_Go _ _ _ _ (s₁.setTop (mkF m 2 #[.val (.int p1), .unset, .unset] [(.int (1 : Int32)), (.int p1)]))
  refine own_by (fun _ k => XS.iadd X0.here hx rfl (hb hby d1_2) rfl k) ?_
  show own_Go _ _ _ _ (s₁.setTop (mkF m 3 #[.val (.int p1), .unset, .unset] [(.int (p1 + (1 : Int32)))]))
  refine own_by (fun _ k => XS.i2l X0.here hx rfl (hb hby d1_3) rfl k) ?_
  show own_Go _ _ _ _ (s₁.setTop (mkF m 4 #[.val (.int p1), .unset, .unset] [(.long ((p1 + (1 : Int32)).toInt64))]))
  refine own_by (fun _ k => X0.ldc2Long hx hown (mvT hZ (hw _ (List.mem_of_getElem? (i := 4) rfl))) (g := (mkF m 4 #[.val (.int p1), .unset, .unset] [(.long ((p1 + (1 : Int32)).toInt64))])) rfl (hb hby d1_4) _ k) ?_
  show own_Go _ _ _ _ (s₁.setTop (mkF m 7 #[.val (.int p1), .unset, .unset] [(.long (-7046029254386353131 : Int64)), (.long ((p1 + (1 : Int32)).toInt64))]))
  refine own_by (fun _ k => XS.lmul X0.here hx rfl (hb hby d1_7) rfl k) ?_
  show own_Go _ _ _ _ (s₁.setTop (mkF m 8 #[.val (.int p1), .unset, .unset] [(.long (((p1 + (1 : Int32)).toInt64) * (-7046029254386353131 : Int64)))]))
  obtain ⟨v1_1, hv1_1⟩ : ∃ z_ : Int64, (((p1 + (1 : Int32)).toInt64) * (-7046029254386353131 : Int64)) = z_ := ⟨_, rfl⟩
  refine own_gen hv1_1 (fun z_ => s₁.setTop (mkF m 8 #[.val (.int p1), .unset, .unset] [(.long z_)])) ?_
  refine own_by (fun _ k => XS.lstoreN X0.here hx rfl (hb hby d1_8) rfl (l' := #[.val (.int p1), .val (.long v1_1), .second]) rfl k) ?_
  show own_Go _ _ _ _ (s₁.setTop (mkF m 9 #[.val (.int p1), .val (.long v1_1), .second] []))
  refine own_by (fun _ k => XS.lloadN X0.here hx rfl (hb hby d1_9) rfl k) ?_
  show own_Go _ _ _ _ (s₁.setTop (mkF m 10 #[.val (.int p1), .val (.long v1_1), .second] [(.long v1_1)]))
  refine own_by (fun _ k => XS.lloadN X0.here hx rfl (hb hby d1_10) rfl k) ?_
  show own_Go _ _ _ _ (s₁.setTop (mkF m 11 #[.val (.int p1), .val (.long v1_1), .second] [(.long v1_1), (.long v1_1)]))
  refine own_by (fun _ k => XS.bipush X0.here hx rfl (hb hby d1_11) k) ?_
  show own_Go _ _ _ _ (s₁.setTop (mkF m 13 #[.val (.int p1), .val (.long v1_1), .second] [(.int (30 : Int32)), (.long v1_1), (.long v1_1)]))
  refine own_by (fun _ k => XS.lushr X0.here hx rfl (hb hby d1_13) rfl k) ?_
  show own_Go _ _ _ _ (s₁.setTop (mkF m 14 #[.val (.int p1), .val (.long v1_1), .second] [(.long ((v1_1.toUInt64 >>> ((30 : Int32) &&& 0x3f).toInt64.toUInt64).toInt64)), (.long v1_1)]))
  refine own_by (fun _ k => XS.lxor X0.here hx rfl (hb hby d1_14) rfl k) ?_
  show own_Go _ _ _ _ (s₁.setTop (mkF m 15 #[.val (.int p1), .val (.long v1_1), .second] [(.long (v1_1 ^^^ ((v1_1.toUInt64 >>> ((30 : Int32) &&& 0x3f).toInt64.toUInt64).toInt64)))]))
  refine own_by (fun _ k => X0.ldc2Long hx hown (mvT hZ (hw _ (List.mem_of_getElem? (i := 5) rfl))) (g := (mkF m 15 #[.val (.int p1), .val (.long v1_1), .second] [(.long (v1_1 ^^^ ((v1_1.toUInt64 >>> ((30 : Int32) &&& 0x3f).toInt64.toUInt64).toInt64)))])) rfl (hb hby d1_15) _ k) ?_
  show own_Go _ _ _ _ (s₁.setTop (mkF m 18 #[.val (.int p1), .val (.long v1_1), .second] [(.long (-4658895280553007687 : Int64)), (.long (v1_1 ^^^ ((v1_1.toUInt64 >>> ((30 : Int32) &&& 0x3f).toInt64.toUInt64).toInt64)))]))
  refine own_by (fun _ k => XS.lmul X0.here hx rfl (hb hby d1_18) rfl k) ?_
  show own_Go _ _ _ _ (s₁.setTop (mkF m 19 #[.val (.int p1), .val (.long v1_1), .second] [(.long ((v1_1 ^^^ ((v1_1.toUInt64 >>> ((30 : Int32) &&& 0x3f).toInt64.toUInt64).toInt64)) * (-4658895280553007687 : Int64)))]))
  obtain ⟨v1_2, hv1_2⟩ : ∃ z_ : Int64, ((v1_1 ^^^ ((v1_1.toUInt64 >>> ((30 : Int32) &&& 0x3f).toInt64.toUInt64).toInt64)) * (-4658895280553007687 : Int64)) = z_ := ⟨_, rfl⟩
  refine own_gen hv1_2 (fun z_ => s₁.setTop (mkF m 19 #[.val (.int p1), .val (.long v1_1), .second] [(.long z_)])) ?_
  refine own_by (fun _ k => XS.lstoreN X0.here hx rfl (hb hby d1_19) rfl (l' := #[.val (.int p1), .val (.long v1_2), .second]) rfl k) ?_
  show own_Go _ _ _ _ (s₁.setTop (mkF m 20 #[.val (.int p1), .val (.long v1_2), .second] []))
  refine own_by (fun _ k => XS.lloadN X0.here hx rfl (hb hby d1_20) rfl k) ?_
  show own_Go _ _ _ _ (s₁.setTop (mkF m 21 #[.val (.int p1), .val (.long v1_2), .second] [(.long v1_2)]))
  refine own_by (fun _ k => XS.lloadN X0.here hx rfl (hb hby d1_21) rfl k) ?_
  show own_Go _ _ _ _ (s₁.setTop (mkF m 22 #[.val (.int p1), .val (.long v1_2), .second] [(.long v1_2), (.long v1_2)]))
  refine own_by (fun _ k => XS.bipush X0.here hx rfl (hb hby d1_22) k) ?_
  show own_Go _ _ _ _ (s₁.setTop (mkF m 24 #[.val (.int p1), .val (.long v1_2), .second] [(.int (27 : Int32)), (.long v1_2), (.long v1_2)]))
  refine own_by (fun _ k => XS.lushr X0.here hx rfl (hb hby d1_24) rfl k) ?_
  show own_Go _ _ _ _ (s₁.setTop (mkF m 25 #[.val (.int p1), .val (.long v1_2), .second] [(.long ((v1_2.toUInt64 >>> ((27 : Int32) &&& 0x3f).toInt64.toUInt64).toInt64)), (.long v1_2)]))
  refine own_by (fun _ k => XS.lxor X0.here hx rfl (hb hby d1_25) rfl k) ?_
  show own_Go _ _ _ _ (s₁.setTop (mkF m 26 #[.val (.int p1), .val (.long v1_2), .second] [(.long (v1_2 ^^^ ((v1_2.toUInt64 >>> ((27 : Int32) &&& 0x3f).toInt64.toUInt64).toInt64)))]))
  refine own_by (fun _ k => X0.ldc2Long hx hown (mvT hZ (hw _ (List.mem_of_getElem? (i := 6) rfl))) (g := (mkF m 26 #[.val (.int p1), .val (.long v1_2), .second] [(.long (v1_2 ^^^ ((v1_2.toUInt64 >>> ((27 : Int32) &&& 0x3f).toInt64.toUInt64).toInt64)))])) rfl (hb hby d1_26) _ k) ?_
  show own_Go _ _ _ _ (s₁.setTop (mkF m 29 #[.val (.int p1), .val (.long v1_2), .second] [(.long (-7723592293110705685 : Int64)), (.long (v1_2 ^^^ ((v1_2.toUInt64 >>> ((27 : Int32) &&& 0x3f).toInt64.toUInt64).toInt64)))]))
  refine own_by (fun _ k => XS.lmul X0.here hx rfl (hb hby d1_29) rfl k) ?_
  show own_Go _ _ _ _ (s₁.setTop (mkF m 30 #[.val (.int p1), .val (.long v1_2), .second] [(.long ((v1_2 ^^^ ((v1_2.toUInt64 >>> ((27 : Int32) &&& 0x3f).toInt64.toUInt64).toInt64)) * (-7723592293110705685 : Int64)))]))
  obtain ⟨v1_3, hv1_3⟩ : ∃ z_ : Int64, ((v1_2 ^^^ ((v1_2.toUInt64 >>> ((27 : Int32) &&& 0x3f).toInt64.toUInt64).toInt64)) * (-7723592293110705685 : Int64)) = z_ := ⟨_, rfl⟩
  refine own_gen hv1_3 (fun z_ => s₁.setTop (mkF m 30 #[.val (.int p1), .val (.long v1_2), .second] [(.long z_)])) ?_
  refine own_by (fun _ k => XS.lstoreN X0.here hx rfl (hb hby d1_30) rfl (l' := #[.val (.int p1), .val (.long v1_3), .second]) rfl k) ?_
  show own_Go _ _ _ _ (s₁.setTop (mkF m 31 #[.val (.int p1), .val (.long v1_3), .second] []))
  refine own_by (fun _ k => XS.lloadN X0.here hx rfl (hb hby d1_31) rfl k) ?_
  show own_Go _ _ _ _ (s₁.setTop (mkF m 32 #[.val (.int p1), .val (.long v1_3), .second] [(.long v1_3)]))
  refine own_by (fun _ k => XS.lloadN X0.here hx rfl (hb hby d1_32) rfl k) ?_
  show own_Go _ _ _ _ (s₁.setTop (mkF m 33 #[.val (.int p1), .val (.long v1_3), .second] [(.long v1_3), (.long v1_3)]))
  refine own_by (fun _ k => XS.bipush X0.here hx rfl (hb hby d1_33) k) ?_
  show own_Go _ _ _ _ (s₁.setTop (mkF m 35 #[.val (.int p1), .val (.long v1_3), .second] [(.int (31 : Int32)), (.long v1_3), (.long v1_3)]))
  refine own_by (fun _ k => XS.lushr X0.here hx rfl (hb hby d1_35) rfl k) ?_
  show own_Go _ _ _ _ (s₁.setTop (mkF m 36 #[.val (.int p1), .val (.long v1_3), .second] [(.long ((v1_3.toUInt64 >>> ((31 : Int32) &&& 0x3f).toInt64.toUInt64).toInt64)), (.long v1_3)]))
  refine own_by (fun _ k => XS.lxor X0.here hx rfl (hb hby d1_36) rfl k) ?_
  show own_Go _ _ _ _ (s₁.setTop (mkF m 37 #[.val (.int p1), .val (.long v1_3), .second] [(.long (v1_3 ^^^ ((v1_3.toUInt64 >>> ((31 : Int32) &&& 0x3f).toInt64.toUInt64).toInt64)))]))
  exact own_retJ X0 hx Bd.notSynchronized e0 Bd.returns (hb hby d1_37) (⟨congrArg (fun z => some (Value.long z)) (own_hash1 p1 _ _ _ hv1_1 hv1_2 hv1_3), N0, rfl⟩) (by decide) (by decide)
set_option maxRecDepth 65536 in
set_option maxHeartbeats 40000000 in
theorem rm2 (l : Launch) (Z : State) (a0 : Array Value) (hw : ∀ d ∈ tables_1, d.before a0 Z = true) (ws : List Jvm.Cond) (q1 : Int64)  (h0 : Heap) (n0 : Nat) (Z0 : n0 ≤ h0.size) :
    MetFree l (⟨"com/example/sonde/sonde/automata/LtlSetsHashPinLaw", "inv", "(J)J"⟩ : MethodName) (head1 (Jvm.Cond.code (⟨"com/example/sonde/sonde/automata/LtlSetsHashPinLaw", "inv", "(J)J"⟩ : MethodName) method_2_code 4 (some .long) :: ws) ({ frames := 0, cells := 0, slots := 0, locals := 0 } : Room)) (fun a U => a = #[(.long q1)] ∧ Z.Warmed39 U.vm ∧ U.heap = h0) (fun _ _ _ _ _ => True) (fun _ U o U' => ∃ v L, o = .returned v ∧ own_ap (fun v h L => v = some (.long (own_inv q1)) ∧ Fr n0 L ∧ h = h0) v U'.heap L ∧ FrameEnd U o U' L 0 0) := by
  refine MetFree.of_bodySF (plainFor_of_name pn_2) hisR ?_
  intro p e s m args below meth c s₁ Bd hml0 hP hK
  obtain ⟨rfl, hZ, hh⟩ := hP
  have hx := Bd.exec
  have hby := Bd.bytes
  have hml : c.maxLocals = 4 := hml0
  have hown : s.vm.findClass "com/example/sonde/sonde/automata/LtlSetsHashPinLaw" = some m.cls := findClass_of_methodNamed Bd.named
  have hnm := (name_of_methodNamed Bd.named Bd.method).1
  have X0 : Stand p l e ({ frames := 0, cells := 0, slots := 0, locals := 0 } : Room) s m #[(.long q1)] below meth c s₁ [] 0 0 := Stand.of_body Bd
  have e0 : s₁.heap = h0 := by rw [← hh, Bd.state]; rfl
  have N0 := Fr.nil n0
  show own_Go p.tables e below (own_Q s (fun v h L => v = some (.long (own_inv q1)) ∧ Fr n0 L ∧ h = h0) 0 0) (s₁.setTop (entryFrame m #[(.long q1)] 4))
  rw [show entryFrame m #[(.long q1)] 4 = mkF m 0 #[.val (.long q1), .second, .unset, .unset] [] from by first | (simp [entryFrame, mkF, argsToLocals, Value.category]; done) | rfl]
  show own_Go _ _ _ _ (s₁.setTop (mkF m 0 #[.val (.long q1), .second, .unset, .unset] []))
  refine own_by (fun _ k => XS.lloadN X0.here hx rfl (hb hby d2_0) rfl k) ?_
  show own_Go _ _ _ _ (s₁.setTop (mkF m 1 #[.val (.long q1), .second, .unset, .unset] [(.long q1)]))
  refine own_by (fun _ k => XS.lstoreN X0.here hx rfl (hb hby d2_1) rfl (l' := #[.val (.long q1), .second, .val (.long q1), .second]) rfl k) ?_
  show own_Go _ _ _ _ (s₁.setTop (mkF m 2 #[.val (.long q1), .second, .val (.long q1), .second] []))
  refine own_by (fun _ k => XS.lloadN X0.here hx rfl (hb hby d2_2) rfl k) ?_
  show own_Go _ _ _ _ (s₁.setTop (mkF m 3 #[.val (.long q1), .second, .val (.long q1), .second] [(.long q1)]))
  refine own_by (fun _ k => X0.ldc2Long hx hown (mvT hZ (hw _ (List.mem_of_getElem? (i := 12) rfl))) (g := (mkF m 3 #[.val (.long q1), .second, .val (.long q1), .second] [(.long q1)])) rfl (hb hby d2_3) _ k) ?_
  show own_Go _ _ _ _ (s₁.setTop (mkF m 6 #[.val (.long q1), .second, .val (.long q1), .second] [(.long (2 : Int64)), (.long q1)]))
  refine own_by (fun _ k => XS.lloadN X0.here hx rfl (hb hby d2_6) rfl k) ?_
  show own_Go _ _ _ _ (s₁.setTop (mkF m 7 #[.val (.long q1), .second, .val (.long q1), .second] [(.long q1), (.long (2 : Int64)), (.long q1)]))
  refine own_by (fun _ k => XS.lloadN X0.here hx rfl (hb hby d2_7) rfl k) ?_
  show own_Go _ _ _ _ (s₁.setTop (mkF m 8 #[.val (.long q1), .second, .val (.long q1), .second] [(.long q1), (.long q1), (.long (2 : Int64)), (.long q1)]))
  refine own_by (fun _ k => XS.lmul X0.here hx rfl (hb hby d2_8) rfl k) ?_
  show own_Go _ _ _ _ (s₁.setTop (mkF m 9 #[.val (.long q1), .second, .val (.long q1), .second] [(.long (q1 * q1)), (.long (2 : Int64)), (.long q1)]))
  refine own_by (fun _ k => XS.lsub X0.here hx rfl (hb hby d2_9) rfl k) ?_
  show own_Go _ _ _ _ (s₁.setTop (mkF m 10 #[.val (.long q1), .second, .val (.long q1), .second] [(.long ((2 : Int64) - (q1 * q1))), (.long q1)]))
  refine own_by (fun _ k => XS.lmul X0.here hx rfl (hb hby d2_10) rfl k) ?_
  show own_Go _ _ _ _ (s₁.setTop (mkF m 11 #[.val (.long q1), .second, .val (.long q1), .second] [(.long (q1 * ((2 : Int64) - (q1 * q1))))]))
  obtain ⟨v2_1, hv2_1⟩ : ∃ z_ : Int64, (q1 * ((2 : Int64) - (q1 * q1))) = z_ := ⟨_, rfl⟩
  refine own_gen hv2_1 (fun z_ => s₁.setTop (mkF m 11 #[.val (.long q1), .second, .val (.long q1), .second] [(.long z_)])) ?_
  refine own_by (fun _ k => XS.lstoreN X0.here hx rfl (hb hby d2_11) rfl (l' := #[.val (.long q1), .second, .val (.long v2_1), .second]) rfl k) ?_
  show own_Go _ _ _ _ (s₁.setTop (mkF m 12 #[.val (.long q1), .second, .val (.long v2_1), .second] []))
  refine own_by (fun _ k => XS.lloadN X0.here hx rfl (hb hby d2_12) rfl k) ?_
  show own_Go _ _ _ _ (s₁.setTop (mkF m 13 #[.val (.long q1), .second, .val (.long v2_1), .second] [(.long v2_1)]))
  refine own_by (fun _ k => X0.ldc2Long hx hown (mvT hZ (hw _ (List.mem_of_getElem? (i := 12) rfl))) (g := (mkF m 13 #[.val (.long q1), .second, .val (.long v2_1), .second] [(.long v2_1)])) rfl (hb hby d2_13) _ k) ?_
  show own_Go _ _ _ _ (s₁.setTop (mkF m 16 #[.val (.long q1), .second, .val (.long v2_1), .second] [(.long (2 : Int64)), (.long v2_1)]))
  refine own_by (fun _ k => XS.lloadN X0.here hx rfl (hb hby d2_16) rfl k) ?_
  show own_Go _ _ _ _ (s₁.setTop (mkF m 17 #[.val (.long q1), .second, .val (.long v2_1), .second] [(.long q1), (.long (2 : Int64)), (.long v2_1)]))
  refine own_by (fun _ k => XS.lloadN X0.here hx rfl (hb hby d2_17) rfl k) ?_
  show own_Go _ _ _ _ (s₁.setTop (mkF m 18 #[.val (.long q1), .second, .val (.long v2_1), .second] [(.long v2_1), (.long q1), (.long (2 : Int64)), (.long v2_1)]))
  refine own_by (fun _ k => XS.lmul X0.here hx rfl (hb hby d2_18) rfl k) ?_
  show own_Go _ _ _ _ (s₁.setTop (mkF m 19 #[.val (.long q1), .second, .val (.long v2_1), .second] [(.long (q1 * v2_1)), (.long (2 : Int64)), (.long v2_1)]))
  refine own_by (fun _ k => XS.lsub X0.here hx rfl (hb hby d2_19) rfl k) ?_
  show own_Go _ _ _ _ (s₁.setTop (mkF m 20 #[.val (.long q1), .second, .val (.long v2_1), .second] [(.long ((2 : Int64) - (q1 * v2_1))), (.long v2_1)]))
  refine own_by (fun _ k => XS.lmul X0.here hx rfl (hb hby d2_20) rfl k) ?_
  show own_Go _ _ _ _ (s₁.setTop (mkF m 21 #[.val (.long q1), .second, .val (.long v2_1), .second] [(.long (v2_1 * ((2 : Int64) - (q1 * v2_1))))]))
  obtain ⟨v2_2, hv2_2⟩ : ∃ z_ : Int64, (v2_1 * ((2 : Int64) - (q1 * v2_1))) = z_ := ⟨_, rfl⟩
  refine own_gen hv2_2 (fun z_ => s₁.setTop (mkF m 21 #[.val (.long q1), .second, .val (.long v2_1), .second] [(.long z_)])) ?_
  refine own_by (fun _ k => XS.lstoreN X0.here hx rfl (hb hby d2_21) rfl (l' := #[.val (.long q1), .second, .val (.long v2_2), .second]) rfl k) ?_
  show own_Go _ _ _ _ (s₁.setTop (mkF m 22 #[.val (.long q1), .second, .val (.long v2_2), .second] []))
  refine own_by (fun _ k => XS.lloadN X0.here hx rfl (hb hby d2_22) rfl k) ?_
  show own_Go _ _ _ _ (s₁.setTop (mkF m 23 #[.val (.long q1), .second, .val (.long v2_2), .second] [(.long v2_2)]))
  refine own_by (fun _ k => X0.ldc2Long hx hown (mvT hZ (hw _ (List.mem_of_getElem? (i := 12) rfl))) (g := (mkF m 23 #[.val (.long q1), .second, .val (.long v2_2), .second] [(.long v2_2)])) rfl (hb hby d2_23) _ k) ?_
  show own_Go _ _ _ _ (s₁.setTop (mkF m 26 #[.val (.long q1), .second, .val (.long v2_2), .second] [(.long (2 : Int64)), (.long v2_2)]))
  refine own_by (fun _ k => XS.lloadN X0.here hx rfl (hb hby d2_26) rfl k) ?_
  show own_Go _ _ _ _ (s₁.setTop (mkF m 27 #[.val (.long q1), .second, .val (.long v2_2), .second] [(.long q1), (.long (2 : Int64)), (.long v2_2)]))
  refine own_by (fun _ k => XS.lloadN X0.here hx rfl (hb hby d2_27) rfl k) ?_
  show own_Go _ _ _ _ (s₁.setTop (mkF m 28 #[.val (.long q1), .second, .val (.long v2_2), .second] [(.long v2_2), (.long q1), (.long (2 : Int64)), (.long v2_2)]))
  refine own_by (fun _ k => XS.lmul X0.here hx rfl (hb hby d2_28) rfl k) ?_
  show own_Go _ _ _ _ (s₁.setTop (mkF m 29 #[.val (.long q1), .second, .val (.long v2_2), .second] [(.long (q1 * v2_2)), (.long (2 : Int64)), (.long v2_2)]))
  refine own_by (fun _ k => XS.lsub X0.here hx rfl (hb hby d2_29) rfl k) ?_
  show own_Go _ _ _ _ (s₁.setTop (mkF m 30 #[.val (.long q1), .second, .val (.long v2_2), .second] [(.long ((2 : Int64) - (q1 * v2_2))), (.long v2_2)]))
  refine own_by (fun _ k => XS.lmul X0.here hx rfl (hb hby d2_30) rfl k) ?_
  show own_Go _ _ _ _ (s₁.setTop (mkF m 31 #[.val (.long q1), .second, .val (.long v2_2), .second] [(.long (v2_2 * ((2 : Int64) - (q1 * v2_2))))]))
  obtain ⟨v2_3, hv2_3⟩ : ∃ z_ : Int64, (v2_2 * ((2 : Int64) - (q1 * v2_2))) = z_ := ⟨_, rfl⟩
  refine own_gen hv2_3 (fun z_ => s₁.setTop (mkF m 31 #[.val (.long q1), .second, .val (.long v2_2), .second] [(.long z_)])) ?_
  refine own_by (fun _ k => XS.lstoreN X0.here hx rfl (hb hby d2_31) rfl (l' := #[.val (.long q1), .second, .val (.long v2_3), .second]) rfl k) ?_
  show own_Go _ _ _ _ (s₁.setTop (mkF m 32 #[.val (.long q1), .second, .val (.long v2_3), .second] []))
  refine own_by (fun _ k => XS.lloadN X0.here hx rfl (hb hby d2_32) rfl k) ?_
  show own_Go _ _ _ _ (s₁.setTop (mkF m 33 #[.val (.long q1), .second, .val (.long v2_3), .second] [(.long v2_3)]))
  refine own_by (fun _ k => X0.ldc2Long hx hown (mvT hZ (hw _ (List.mem_of_getElem? (i := 12) rfl))) (g := (mkF m 33 #[.val (.long q1), .second, .val (.long v2_3), .second] [(.long v2_3)])) rfl (hb hby d2_33) _ k) ?_
  show own_Go _ _ _ _ (s₁.setTop (mkF m 36 #[.val (.long q1), .second, .val (.long v2_3), .second] [(.long (2 : Int64)), (.long v2_3)]))
  refine own_by (fun _ k => XS.lloadN X0.here hx rfl (hb hby d2_36) rfl k) ?_
  show own_Go _ _ _ _ (s₁.setTop (mkF m 37 #[.val (.long q1), .second, .val (.long v2_3), .second] [(.long q1), (.long (2 : Int64)), (.long v2_3)]))
  refine own_by (fun _ k => XS.lloadN X0.here hx rfl (hb hby d2_37) rfl k) ?_
  show own_Go _ _ _ _ (s₁.setTop (mkF m 38 #[.val (.long q1), .second, .val (.long v2_3), .second] [(.long v2_3), (.long q1), (.long (2 : Int64)), (.long v2_3)]))
  refine own_by (fun _ k => XS.lmul X0.here hx rfl (hb hby d2_38) rfl k) ?_
  show own_Go _ _ _ _ (s₁.setTop (mkF m 39 #[.val (.long q1), .second, .val (.long v2_3), .second] [(.long (q1 * v2_3)), (.long (2 : Int64)), (.long v2_3)]))
  refine own_by (fun _ k => XS.lsub X0.here hx rfl (hb hby d2_39) rfl k) ?_
  show own_Go _ _ _ _ (s₁.setTop (mkF m 40 #[.val (.long q1), .second, .val (.long v2_3), .second] [(.long ((2 : Int64) - (q1 * v2_3))), (.long v2_3)]))
  refine own_by (fun _ k => XS.lmul X0.here hx rfl (hb hby d2_40) rfl k) ?_
  show own_Go _ _ _ _ (s₁.setTop (mkF m 41 #[.val (.long q1), .second, .val (.long v2_3), .second] [(.long (v2_3 * ((2 : Int64) - (q1 * v2_3))))]))
  obtain ⟨v2_4, hv2_4⟩ : ∃ z_ : Int64, (v2_3 * ((2 : Int64) - (q1 * v2_3))) = z_ := ⟨_, rfl⟩
  refine own_gen hv2_4 (fun z_ => s₁.setTop (mkF m 41 #[.val (.long q1), .second, .val (.long v2_3), .second] [(.long z_)])) ?_
  refine own_by (fun _ k => XS.lstoreN X0.here hx rfl (hb hby d2_41) rfl (l' := #[.val (.long q1), .second, .val (.long v2_4), .second]) rfl k) ?_
  show own_Go _ _ _ _ (s₁.setTop (mkF m 42 #[.val (.long q1), .second, .val (.long v2_4), .second] []))
  refine own_by (fun _ k => XS.lloadN X0.here hx rfl (hb hby d2_42) rfl k) ?_
  show own_Go _ _ _ _ (s₁.setTop (mkF m 43 #[.val (.long q1), .second, .val (.long v2_4), .second] [(.long v2_4)]))
  refine own_by (fun _ k => X0.ldc2Long hx hown (mvT hZ (hw _ (List.mem_of_getElem? (i := 12) rfl))) (g := (mkF m 43 #[.val (.long q1), .second, .val (.long v2_4), .second] [(.long v2_4)])) rfl (hb hby d2_43) _ k) ?_
  show own_Go _ _ _ _ (s₁.setTop (mkF m 46 #[.val (.long q1), .second, .val (.long v2_4), .second] [(.long (2 : Int64)), (.long v2_4)]))
  refine own_by (fun _ k => XS.lloadN X0.here hx rfl (hb hby d2_46) rfl k) ?_
  show own_Go _ _ _ _ (s₁.setTop (mkF m 47 #[.val (.long q1), .second, .val (.long v2_4), .second] [(.long q1), (.long (2 : Int64)), (.long v2_4)]))
  refine own_by (fun _ k => XS.lloadN X0.here hx rfl (hb hby d2_47) rfl k) ?_
  show own_Go _ _ _ _ (s₁.setTop (mkF m 48 #[.val (.long q1), .second, .val (.long v2_4), .second] [(.long v2_4), (.long q1), (.long (2 : Int64)), (.long v2_4)]))
  refine own_by (fun _ k => XS.lmul X0.here hx rfl (hb hby d2_48) rfl k) ?_
  show own_Go _ _ _ _ (s₁.setTop (mkF m 49 #[.val (.long q1), .second, .val (.long v2_4), .second] [(.long (q1 * v2_4)), (.long (2 : Int64)), (.long v2_4)]))
  refine own_by (fun _ k => XS.lsub X0.here hx rfl (hb hby d2_49) rfl k) ?_
  show own_Go _ _ _ _ (s₁.setTop (mkF m 50 #[.val (.long q1), .second, .val (.long v2_4), .second] [(.long ((2 : Int64) - (q1 * v2_4))), (.long v2_4)]))
  refine own_by (fun _ k => XS.lmul X0.here hx rfl (hb hby d2_50) rfl k) ?_
  show own_Go _ _ _ _ (s₁.setTop (mkF m 51 #[.val (.long q1), .second, .val (.long v2_4), .second] [(.long (v2_4 * ((2 : Int64) - (q1 * v2_4))))]))
  obtain ⟨v2_5, hv2_5⟩ : ∃ z_ : Int64, (v2_4 * ((2 : Int64) - (q1 * v2_4))) = z_ := ⟨_, rfl⟩
  refine own_gen hv2_5 (fun z_ => s₁.setTop (mkF m 51 #[.val (.long q1), .second, .val (.long v2_4), .second] [(.long z_)])) ?_
  refine own_by (fun _ k => XS.lstoreN X0.here hx rfl (hb hby d2_51) rfl (l' := #[.val (.long q1), .second, .val (.long v2_5), .second]) rfl k) ?_
  show own_Go _ _ _ _ (s₁.setTop (mkF m 52 #[.val (.long q1), .second, .val (.long v2_5), .second] []))
  refine own_by (fun _ k => XS.lloadN X0.here hx rfl (hb hby d2_52) rfl k) ?_
  show own_Go _ _ _ _ (s₁.setTop (mkF m 53 #[.val (.long q1), .second, .val (.long v2_5), .second] [(.long v2_5)]))
  exact own_retJ X0 hx Bd.notSynchronized e0 Bd.returns (hb hby d2_53) (⟨congrArg (fun z => some (Value.long z)) (own_inv1 q1 _ _ _ _ _ hv2_1 hv2_2 hv2_3 hv2_4 hv2_5), N0, rfl⟩) (by decide) (by decide)
set_option maxRecDepth 65536 in
set_option maxHeartbeats 40000000 in
theorem rm0 (l : Launch) (Z : State) (a0 : Array Value) (hw : ∀ d ∈ tables_1, d.before a0 Z = true) (ws : List Jvm.Cond) (p1 : Int32)  (h0 : Heap) (n0 : Nat) (Z0 : n0 ≤ h0.size) :
    MetFree l x (head1 (Jvm.Cond.code x code maxLocals ret :: ws) room_1) (fun a U => a = #[(.int p1)] ∧ Z.Warmed39 U.vm ∧ U.heap = h0) (fun _ _ _ _ _ => True) (fun _ U o U' => ∃ v L, o = .returned v ∧ own_ap (fun v h L => v = some (.int 1) ∧ Fr n0 L) v U'.heap L ∧ FrameEnd U o U' L 0 0) := by
  refine MetFree.of_bodySF (plainFor_of_name pn_0) hisR ?_
  intro p e s m args below meth c s₁ Bd hml0 hP hK
  obtain ⟨rfl, hZ, hh⟩ := hP
  have hx := Bd.exec
  have hby := Bd.bytes
  have hml : c.maxLocals = 7 := hml0
  have hown : s.vm.findClass "com/example/sonde/sonde/automata/LtlSetsHashPinLaw" = some m.cls := findClass_of_methodNamed Bd.named
  have hnm := (name_of_methodNamed Bd.named Bd.method).1
  have X0 : Stand p l e room_1 s m #[(.int p1)] below meth c s₁ [] 0 0 := Stand.of_body Bd
  have e0 : s₁.heap = h0 := by rw [← hh, Bd.state]; rfl
  have N0 := Fr.nil n0
  show own_Go p.tables e below (own_Q s (fun v h L => v = some (.int 1) ∧ Fr n0 L) 0 0) (s₁.setTop (entryFrame m #[(.int p1)] maxLocals))
  rw [show entryFrame m #[(.int p1)] maxLocals = mkF m 0 #[.val (.int p1), .unset, .unset, .unset, .unset, .unset, .unset] [] from by first | (simp [entryFrame, mkF, argsToLocals, Value.category, maxLocals]; done) | rfl]
  show own_Go _ _ _ _ (s₁.setTop (mkF m 0 #[.val (.int p1), .unset, .unset, .unset, .unset, .unset, .unset] []))
  refine own_by (fun _ k => XS.iloadN X0.here hx rfl (hb hby at_0) rfl k) ?_
  show own_Go _ _ _ _ (s₁.setTop (mkF m 1 #[.val (.int p1), .unset, .unset, .unset, .unset, .unset, .unset] [(.int p1)]))
  obtain ⟨_, _, ⟨T1, L1, k1, n1⟩, -, X1, ⟨Lc1, hQ1, l1, y1, z1⟩, st1⟩ := Jvm.LawKit.callS X0 hx (y := (⟨"com/example/sonde/sonde/automata/LtlSets", "hash", "(I)J"⟩ : MethodName)) hown (mvT hZ (hw _ (List.mem_of_getElem? (i := 0) rfl))) (mvT hZ (hw _ (List.mem_of_getElem? (i := 1) rfl))) (mvT hZ (hw _ (List.mem_of_getElem? (i := 2) rfl))) (mvT hZ (hw _ (List.mem_of_getElem? (i := 3) rfl))) (by decide) (backOf (W := 0) (rm1 l Z a0 hw [] p1 h0 n0 Z0) hZ (hw _ (List.mem_of_getElem? (i := 3) rfl)) (hw _ (List.mem_of_getElem? (i := 2) rfl)) (by decide) (by decide)) (g := (mkF m 1 #[.val (.int p1), .unset, .unset, .unset, .unset, .unset, .unset] [(.int p1)])) rfl (by rw [hml]; rfl) (argsL := [(.int p1)]) (rest := []) (lenOf own_pd0 rfl) rfl (by show 2 * 0 + _ ≤ _; exact Nat.le_of_eq rfl) (hb hby at_1) (fun _ _ => ⟨rfl, e0, Nat.le_of_ble_eq_true rfl, Nat.le_of_ble_eq_true rfl⟩)
  dsimp only [Pt.U, Pt.locs, Pt.cells, Pt.slots] at X1 l1 y1 z1 st1 hQ1
  subst l1 y1 z1
  obtain ⟨rfl, N1q, e1⟩ := hQ1
  have N1 := Fr.app N0 N1q
  refine own_by st1 ?_
  show own_Go _ _ _ _ (T1.setTop (mkF m 4 #[.val (.int p1), .unset, .unset, .unset, .unset, .unset, .unset] [(.long (own_mix ((p1 + 1).toInt64 * own_K1)))]))
  obtain ⟨v1_2, hv1_2⟩ : ∃ z_ : Int64, (own_mix ((p1 + 1).toInt64 * own_K1)) = z_ := ⟨_, rfl⟩
  refine own_gen hv1_2 (fun z_ => T1.setTop (mkF m 4 #[.val (.int p1), .unset, .unset, .unset, .unset, .unset, .unset] [(.long z_)])) ?_
  refine own_by (fun _ k => XS.lstoreN X1.here hx rfl (hb hby at_4) rfl (l' := #[.val (.int p1), .val (.long v1_2), .second, .unset, .unset, .unset, .unset]) rfl k) ?_
  show own_Go _ _ _ _ (T1.setTop (mkF m 5 #[.val (.int p1), .val (.long v1_2), .second, .unset, .unset, .unset, .unset] []))
  refine own_by (fun _ k => XS.lloadN X1.here hx rfl (hb hby at_5) rfl k) ?_
  show own_Go _ _ _ _ (T1.setTop (mkF m 6 #[.val (.int p1), .val (.long v1_2), .second, .unset, .unset, .unset, .unset] [(.long v1_2)]))
  refine own_by (fun _ k => XS.lloadN X1.here hx rfl (hb hby at_6) rfl k) ?_
  show own_Go _ _ _ _ (T1.setTop (mkF m 7 #[.val (.int p1), .val (.long v1_2), .second, .unset, .unset, .unset, .unset] [(.long v1_2), (.long v1_2)]))
  refine own_by (fun _ k => XS.bipush X1.here hx rfl (hb hby at_7) k) ?_
  show own_Go _ _ _ _ (T1.setTop (mkF m 9 #[.val (.int p1), .val (.long v1_2), .second, .unset, .unset, .unset, .unset] [(.int (31 : Int32)), (.long v1_2), (.long v1_2)]))
  refine own_by (fun _ k => XS.lushr X1.here hx rfl (hb hby at_9) rfl k) ?_
  show own_Go _ _ _ _ (T1.setTop (mkF m 10 #[.val (.int p1), .val (.long v1_2), .second, .unset, .unset, .unset, .unset] [(.long ((v1_2.toUInt64 >>> ((31 : Int32) &&& 0x3f).toInt64.toUInt64).toInt64)), (.long v1_2)]))
  refine own_by (fun _ k => XS.lxor X1.here hx rfl (hb hby at_10) rfl k) ?_
  show own_Go _ _ _ _ (T1.setTop (mkF m 11 #[.val (.int p1), .val (.long v1_2), .second, .unset, .unset, .unset, .unset] [(.long (v1_2 ^^^ ((v1_2.toUInt64 >>> ((31 : Int32) &&& 0x3f).toInt64.toUInt64).toInt64)))]))
  refine own_by (fun _ k => XS.lloadN X1.here hx rfl (hb hby at_11) rfl k) ?_
  show own_Go _ _ _ _ (T1.setTop (mkF m 12 #[.val (.int p1), .val (.long v1_2), .second, .unset, .unset, .unset, .unset] [(.long v1_2), (.long (v1_2 ^^^ ((v1_2.toUInt64 >>> ((31 : Int32) &&& 0x3f).toInt64.toUInt64).toInt64)))]))
  refine own_by (fun _ k => XS.bipush X1.here hx rfl (hb hby at_12) k) ?_
  show own_Go _ _ _ _ (T1.setTop (mkF m 14 #[.val (.int p1), .val (.long v1_2), .second, .unset, .unset, .unset, .unset] [(.int (62 : Int32)), (.long v1_2), (.long (v1_2 ^^^ ((v1_2.toUInt64 >>> ((31 : Int32) &&& 0x3f).toInt64.toUInt64).toInt64)))]))
  refine own_by (fun _ k => XS.lushr X1.here hx rfl (hb hby at_14) rfl k) ?_
  show own_Go _ _ _ _ (T1.setTop (mkF m 15 #[.val (.int p1), .val (.long v1_2), .second, .unset, .unset, .unset, .unset] [(.long ((v1_2.toUInt64 >>> ((62 : Int32) &&& 0x3f).toInt64.toUInt64).toInt64)), (.long (v1_2 ^^^ ((v1_2.toUInt64 >>> ((31 : Int32) &&& 0x3f).toInt64.toUInt64).toInt64)))]))
  refine own_by (fun _ k => XS.lxor X1.here hx rfl (hb hby at_15) rfl k) ?_
  show own_Go _ _ _ _ (T1.setTop (mkF m 16 #[.val (.int p1), .val (.long v1_2), .second, .unset, .unset, .unset, .unset] [(.long ((v1_2 ^^^ ((v1_2.toUInt64 >>> ((31 : Int32) &&& 0x3f).toInt64.toUInt64).toInt64)) ^^^ ((v1_2.toUInt64 >>> ((62 : Int32) &&& 0x3f).toInt64.toUInt64).toInt64)))]))
  obtain ⟨v3_3, hv3_3⟩ : ∃ z_ : Int64, ((v1_2 ^^^ ((v1_2.toUInt64 >>> ((31 : Int32) &&& 0x3f).toInt64.toUInt64).toInt64)) ^^^ ((v1_2.toUInt64 >>> ((62 : Int32) &&& 0x3f).toInt64.toUInt64).toInt64)) = z_ := ⟨_, rfl⟩
  refine own_gen hv3_3 (fun z_ => T1.setTop (mkF m 16 #[.val (.int p1), .val (.long v1_2), .second, .unset, .unset, .unset, .unset] [(.long z_)])) ?_
  refine own_by (fun _ k => XS.lstoreN X1.here hx rfl (hb hby at_16) rfl (l' := #[.val (.int p1), .val (.long v1_2), .second, .val (.long v3_3), .second, .unset, .unset]) rfl k) ?_
  show own_Go _ _ _ _ (T1.setTop (mkF m 17 #[.val (.int p1), .val (.long v1_2), .second, .val (.long v3_3), .second, .unset, .unset] []))
  refine own_by (fun _ k => XS.lloadN X1.here hx rfl (hb hby at_17) rfl k) ?_
  show own_Go _ _ _ _ (T1.setTop (mkF m 18 #[.val (.int p1), .val (.long v1_2), .second, .val (.long v3_3), .second, .unset, .unset] [(.long v3_3)]))
  refine own_by (fun _ k => X1.ldc2Long hx hown (mvT hZ (hw _ (List.mem_of_getElem? (i := 7) rfl))) (g := (mkF m 18 #[.val (.int p1), .val (.long v1_2), .second, .val (.long v3_3), .second, .unset, .unset] [(.long v3_3)])) rfl (hb hby at_18) _ k) ?_
  show own_Go _ _ _ _ (T1.setTop (mkF m 21 #[.val (.int p1), .val (.long v1_2), .second, .val (.long v3_3), .second, .unset, .unset] [(.long (-7723592293110705685 : Int64)), (.long v3_3)]))
  obtain ⟨_, _, ⟨T4, L4, k4, n4⟩, -, X4, ⟨Lc4, hQ4, l4, y4, z4⟩, st4⟩ := Jvm.LawKit.callS X1 hx (y := (⟨"com/example/sonde/sonde/automata/LtlSetsHashPinLaw", "inv", "(J)J"⟩ : MethodName)) hown (mvT hZ (hw _ (List.mem_of_getElem? (i := 8) rfl))) (mvT hZ (hw _ (List.mem_of_getElem? (i := 9) rfl))) (mvT hZ (hw _ (List.mem_of_getElem? (i := 10) rfl))) (mvT hZ (hw _ (List.mem_of_getElem? (i := 11) rfl))) (by decide) (backOf (W := 2) (rm2 l Z a0 hw [] (-7723592293110705685 : Int64) h0 n0 Z0) hZ (hw _ (List.mem_of_getElem? (i := 11) rfl)) (hw _ (List.mem_of_getElem? (i := 10) rfl)) (by decide) (by decide)) (g := (mkF m 21 #[.val (.int p1), .val (.long v1_2), .second, .val (.long v3_3), .second, .unset, .unset] [(.long (-7723592293110705685 : Int64)), (.long v3_3)])) rfl (by rw [hml]; rfl) (argsL := [(.long (-7723592293110705685 : Int64))]) (rest := [(.long v3_3)]) (lenOf own_pd1 rfl) rfl (by show 2 * 0 + _ ≤ _; exact Nat.le_of_eq rfl) (hb hby at_21) (fun _ _ => ⟨rfl, e1, Nat.le_of_ble_eq_true rfl, Nat.le_of_ble_eq_true rfl⟩)
  dsimp only [Pt.U, Pt.locs, Pt.cells, Pt.slots] at X4 l4 y4 z4 st4 hQ4
  subst l4 y4 z4
  obtain ⟨rfl, N4q, e4⟩ := hQ4
  have N4 := Fr.app N1 N4q
  refine own_by st4 ?_
  show own_Go _ _ _ _ (T4.setTop (mkF m 24 #[.val (.int p1), .val (.long v1_2), .second, .val (.long v3_3), .second, .unset, .unset] [(.long (own_inv (-7723592293110705685 : Int64))), (.long v3_3)]))
  refine own_by (fun _ k => XS.lmul X4.here hx rfl (hb hby at_24) rfl k) ?_
  show own_Go _ _ _ _ (T4.setTop (mkF m 25 #[.val (.int p1), .val (.long v1_2), .second, .val (.long v3_3), .second, .unset, .unset] [(.long (v3_3 * (own_inv (-7723592293110705685 : Int64))))]))
  obtain ⟨v3_5, hv3_5⟩ : ∃ z_ : Int64, (v3_3 * (own_inv (-7723592293110705685 : Int64))) = z_ := ⟨_, rfl⟩
  refine own_gen hv3_5 (fun z_ => T4.setTop (mkF m 25 #[.val (.int p1), .val (.long v1_2), .second, .val (.long v3_3), .second, .unset, .unset] [(.long z_)])) ?_
  refine own_by (fun _ k => XS.lstoreN X4.here hx rfl (hb hby at_25) rfl (l' := #[.val (.int p1), .val (.long v1_2), .second, .val (.long v3_5), .second, .unset, .unset]) rfl k) ?_
  show own_Go _ _ _ _ (T4.setTop (mkF m 26 #[.val (.int p1), .val (.long v1_2), .second, .val (.long v3_5), .second, .unset, .unset] []))
  refine own_by (fun _ k => XS.lloadN X4.here hx rfl (hb hby at_26) rfl k) ?_
  show own_Go _ _ _ _ (T4.setTop (mkF m 27 #[.val (.int p1), .val (.long v1_2), .second, .val (.long v3_5), .second, .unset, .unset] [(.long v3_5)]))
  refine own_by (fun _ k => XS.lloadN X4.here hx rfl (hb hby at_27) rfl k) ?_
  show own_Go _ _ _ _ (T4.setTop (mkF m 28 #[.val (.int p1), .val (.long v1_2), .second, .val (.long v3_5), .second, .unset, .unset] [(.long v3_5), (.long v3_5)]))
  refine own_by (fun _ k => XS.bipush X4.here hx rfl (hb hby at_28) k) ?_
  show own_Go _ _ _ _ (T4.setTop (mkF m 30 #[.val (.int p1), .val (.long v1_2), .second, .val (.long v3_5), .second, .unset, .unset] [(.int (27 : Int32)), (.long v3_5), (.long v3_5)]))
  refine own_by (fun _ k => XS.lushr X4.here hx rfl (hb hby at_30) rfl k) ?_
  show own_Go _ _ _ _ (T4.setTop (mkF m 31 #[.val (.int p1), .val (.long v1_2), .second, .val (.long v3_5), .second, .unset, .unset] [(.long ((v3_5.toUInt64 >>> ((27 : Int32) &&& 0x3f).toInt64.toUInt64).toInt64)), (.long v3_5)]))
  refine own_by (fun _ k => XS.lxor X4.here hx rfl (hb hby at_31) rfl k) ?_
  show own_Go _ _ _ _ (T4.setTop (mkF m 32 #[.val (.int p1), .val (.long v1_2), .second, .val (.long v3_5), .second, .unset, .unset] [(.long (v3_5 ^^^ ((v3_5.toUInt64 >>> ((27 : Int32) &&& 0x3f).toInt64.toUInt64).toInt64)))]))
  refine own_by (fun _ k => XS.lloadN X4.here hx rfl (hb hby at_32) rfl k) ?_
  show own_Go _ _ _ _ (T4.setTop (mkF m 33 #[.val (.int p1), .val (.long v1_2), .second, .val (.long v3_5), .second, .unset, .unset] [(.long v3_5), (.long (v3_5 ^^^ ((v3_5.toUInt64 >>> ((27 : Int32) &&& 0x3f).toInt64.toUInt64).toInt64)))]))
  refine own_by (fun _ k => XS.bipush X4.here hx rfl (hb hby at_33) k) ?_
  show own_Go _ _ _ _ (T4.setTop (mkF m 35 #[.val (.int p1), .val (.long v1_2), .second, .val (.long v3_5), .second, .unset, .unset] [(.int (54 : Int32)), (.long v3_5), (.long (v3_5 ^^^ ((v3_5.toUInt64 >>> ((27 : Int32) &&& 0x3f).toInt64.toUInt64).toInt64)))]))
  refine own_by (fun _ k => XS.lushr X4.here hx rfl (hb hby at_35) rfl k) ?_
  show own_Go _ _ _ _ (T4.setTop (mkF m 36 #[.val (.int p1), .val (.long v1_2), .second, .val (.long v3_5), .second, .unset, .unset] [(.long ((v3_5.toUInt64 >>> ((54 : Int32) &&& 0x3f).toInt64.toUInt64).toInt64)), (.long (v3_5 ^^^ ((v3_5.toUInt64 >>> ((27 : Int32) &&& 0x3f).toInt64.toUInt64).toInt64)))]))
  refine own_by (fun _ k => XS.lxor X4.here hx rfl (hb hby at_36) rfl k) ?_
  show own_Go _ _ _ _ (T4.setTop (mkF m 37 #[.val (.int p1), .val (.long v1_2), .second, .val (.long v3_5), .second, .unset, .unset] [(.long ((v3_5 ^^^ ((v3_5.toUInt64 >>> ((27 : Int32) &&& 0x3f).toInt64.toUInt64).toInt64)) ^^^ ((v3_5.toUInt64 >>> ((54 : Int32) &&& 0x3f).toInt64.toUInt64).toInt64)))]))
  obtain ⟨v3_6, hv3_6⟩ : ∃ z_ : Int64, ((v3_5 ^^^ ((v3_5.toUInt64 >>> ((27 : Int32) &&& 0x3f).toInt64.toUInt64).toInt64)) ^^^ ((v3_5.toUInt64 >>> ((54 : Int32) &&& 0x3f).toInt64.toUInt64).toInt64)) = z_ := ⟨_, rfl⟩
  refine own_gen hv3_6 (fun z_ => T4.setTop (mkF m 37 #[.val (.int p1), .val (.long v1_2), .second, .val (.long v3_5), .second, .unset, .unset] [(.long z_)])) ?_
  refine own_by (fun _ k => XS.lstoreN X4.here hx rfl (hb hby at_37) rfl (l' := #[.val (.int p1), .val (.long v1_2), .second, .val (.long v3_6), .second, .unset, .unset]) rfl k) ?_
  show own_Go _ _ _ _ (T4.setTop (mkF m 38 #[.val (.int p1), .val (.long v1_2), .second, .val (.long v3_6), .second, .unset, .unset] []))
  refine own_by (fun _ k => XS.lloadN X4.here hx rfl (hb hby at_38) rfl k) ?_
  show own_Go _ _ _ _ (T4.setTop (mkF m 39 #[.val (.int p1), .val (.long v1_2), .second, .val (.long v3_6), .second, .unset, .unset] [(.long v3_6)]))
  refine own_by (fun _ k => X4.ldc2Long hx hown (mvT hZ (hw _ (List.mem_of_getElem? (i := 13) rfl))) (g := (mkF m 39 #[.val (.int p1), .val (.long v1_2), .second, .val (.long v3_6), .second, .unset, .unset] [(.long v3_6)])) rfl (hb hby at_39) _ k) ?_
  show own_Go _ _ _ _ (T4.setTop (mkF m 42 #[.val (.int p1), .val (.long v1_2), .second, .val (.long v3_6), .second, .unset, .unset] [(.long (-4658895280553007687 : Int64)), (.long v3_6)]))
  obtain ⟨_, _, ⟨T7, L7, k7, n7⟩, -, X7, ⟨Lc7, hQ7, l7, y7, z7⟩, st7⟩ := Jvm.LawKit.callS X4 hx (y := (⟨"com/example/sonde/sonde/automata/LtlSetsHashPinLaw", "inv", "(J)J"⟩ : MethodName)) hown (mvT hZ (hw _ (List.mem_of_getElem? (i := 8) rfl))) (mvT hZ (hw _ (List.mem_of_getElem? (i := 9) rfl))) (mvT hZ (hw _ (List.mem_of_getElem? (i := 10) rfl))) (mvT hZ (hw _ (List.mem_of_getElem? (i := 11) rfl))) (by decide) (backOf (W := 2) (rm2 l Z a0 hw [] (-4658895280553007687 : Int64) h0 n0 Z0) hZ (hw _ (List.mem_of_getElem? (i := 11) rfl)) (hw _ (List.mem_of_getElem? (i := 10) rfl)) (by decide) (by decide)) (g := (mkF m 42 #[.val (.int p1), .val (.long v1_2), .second, .val (.long v3_6), .second, .unset, .unset] [(.long (-4658895280553007687 : Int64)), (.long v3_6)])) rfl (by rw [hml]; rfl) (argsL := [(.long (-4658895280553007687 : Int64))]) (rest := [(.long v3_6)]) (lenOf own_pd1 rfl) rfl (by show 2 * 0 + _ ≤ _; exact Nat.le_of_eq rfl) (hb hby at_42) (fun _ _ => ⟨rfl, e4, Nat.le_of_ble_eq_true rfl, Nat.le_of_ble_eq_true rfl⟩)
  dsimp only [Pt.U, Pt.locs, Pt.cells, Pt.slots] at X7 l7 y7 z7 st7 hQ7
  subst l7 y7 z7
  obtain ⟨rfl, N7q, e7⟩ := hQ7
  have N7 := Fr.app N4 N7q
  refine own_by st7 ?_
  show own_Go _ _ _ _ (T7.setTop (mkF m 45 #[.val (.int p1), .val (.long v1_2), .second, .val (.long v3_6), .second, .unset, .unset] [(.long (own_inv (-4658895280553007687 : Int64))), (.long v3_6)]))
  refine own_by (fun _ k => XS.lmul X7.here hx rfl (hb hby at_45) rfl k) ?_
  show own_Go _ _ _ _ (T7.setTop (mkF m 46 #[.val (.int p1), .val (.long v1_2), .second, .val (.long v3_6), .second, .unset, .unset] [(.long (v3_6 * (own_inv (-4658895280553007687 : Int64))))]))
  obtain ⟨v3_8, hv3_8⟩ : ∃ z_ : Int64, (v3_6 * (own_inv (-4658895280553007687 : Int64))) = z_ := ⟨_, rfl⟩
  refine own_gen hv3_8 (fun z_ => T7.setTop (mkF m 46 #[.val (.int p1), .val (.long v1_2), .second, .val (.long v3_6), .second, .unset, .unset] [(.long z_)])) ?_
  refine own_by (fun _ k => XS.lstoreN X7.here hx rfl (hb hby at_46) rfl (l' := #[.val (.int p1), .val (.long v1_2), .second, .val (.long v3_8), .second, .unset, .unset]) rfl k) ?_
  show own_Go _ _ _ _ (T7.setTop (mkF m 47 #[.val (.int p1), .val (.long v1_2), .second, .val (.long v3_8), .second, .unset, .unset] []))
  refine own_by (fun _ k => XS.lloadN X7.here hx rfl (hb hby at_47) rfl k) ?_
  show own_Go _ _ _ _ (T7.setTop (mkF m 48 #[.val (.int p1), .val (.long v1_2), .second, .val (.long v3_8), .second, .unset, .unset] [(.long v3_8)]))
  refine own_by (fun _ k => XS.lloadN X7.here hx rfl (hb hby at_48) rfl k) ?_
  show own_Go _ _ _ _ (T7.setTop (mkF m 49 #[.val (.int p1), .val (.long v1_2), .second, .val (.long v3_8), .second, .unset, .unset] [(.long v3_8), (.long v3_8)]))
  refine own_by (fun _ k => XS.bipush X7.here hx rfl (hb hby at_49) k) ?_
  show own_Go _ _ _ _ (T7.setTop (mkF m 51 #[.val (.int p1), .val (.long v1_2), .second, .val (.long v3_8), .second, .unset, .unset] [(.int (30 : Int32)), (.long v3_8), (.long v3_8)]))
  refine own_by (fun _ k => XS.lushr X7.here hx rfl (hb hby at_51) rfl k) ?_
  show own_Go _ _ _ _ (T7.setTop (mkF m 52 #[.val (.int p1), .val (.long v1_2), .second, .val (.long v3_8), .second, .unset, .unset] [(.long ((v3_8.toUInt64 >>> ((30 : Int32) &&& 0x3f).toInt64.toUInt64).toInt64)), (.long v3_8)]))
  refine own_by (fun _ k => XS.lxor X7.here hx rfl (hb hby at_52) rfl k) ?_
  show own_Go _ _ _ _ (T7.setTop (mkF m 53 #[.val (.int p1), .val (.long v1_2), .second, .val (.long v3_8), .second, .unset, .unset] [(.long (v3_8 ^^^ ((v3_8.toUInt64 >>> ((30 : Int32) &&& 0x3f).toInt64.toUInt64).toInt64)))]))
  refine own_by (fun _ k => XS.lloadN X7.here hx rfl (hb hby at_53) rfl k) ?_
  show own_Go _ _ _ _ (T7.setTop (mkF m 54 #[.val (.int p1), .val (.long v1_2), .second, .val (.long v3_8), .second, .unset, .unset] [(.long v3_8), (.long (v3_8 ^^^ ((v3_8.toUInt64 >>> ((30 : Int32) &&& 0x3f).toInt64.toUInt64).toInt64)))]))
  refine own_by (fun _ k => XS.bipush X7.here hx rfl (hb hby at_54) k) ?_
  show own_Go _ _ _ _ (T7.setTop (mkF m 56 #[.val (.int p1), .val (.long v1_2), .second, .val (.long v3_8), .second, .unset, .unset] [(.int (60 : Int32)), (.long v3_8), (.long (v3_8 ^^^ ((v3_8.toUInt64 >>> ((30 : Int32) &&& 0x3f).toInt64.toUInt64).toInt64)))]))
  refine own_by (fun _ k => XS.lushr X7.here hx rfl (hb hby at_56) rfl k) ?_
  show own_Go _ _ _ _ (T7.setTop (mkF m 57 #[.val (.int p1), .val (.long v1_2), .second, .val (.long v3_8), .second, .unset, .unset] [(.long ((v3_8.toUInt64 >>> ((60 : Int32) &&& 0x3f).toInt64.toUInt64).toInt64)), (.long (v3_8 ^^^ ((v3_8.toUInt64 >>> ((30 : Int32) &&& 0x3f).toInt64.toUInt64).toInt64)))]))
  refine own_by (fun _ k => XS.lxor X7.here hx rfl (hb hby at_57) rfl k) ?_
  show own_Go _ _ _ _ (T7.setTop (mkF m 58 #[.val (.int p1), .val (.long v1_2), .second, .val (.long v3_8), .second, .unset, .unset] [(.long ((v3_8 ^^^ ((v3_8.toUInt64 >>> ((30 : Int32) &&& 0x3f).toInt64.toUInt64).toInt64)) ^^^ ((v3_8.toUInt64 >>> ((60 : Int32) &&& 0x3f).toInt64.toUInt64).toInt64)))]))
  obtain ⟨v3_9, hv3_9⟩ : ∃ z_ : Int64, ((v3_8 ^^^ ((v3_8.toUInt64 >>> ((30 : Int32) &&& 0x3f).toInt64.toUInt64).toInt64)) ^^^ ((v3_8.toUInt64 >>> ((60 : Int32) &&& 0x3f).toInt64.toUInt64).toInt64)) = z_ := ⟨_, rfl⟩
  refine own_gen hv3_9 (fun z_ => T7.setTop (mkF m 58 #[.val (.int p1), .val (.long v1_2), .second, .val (.long v3_8), .second, .unset, .unset] [(.long z_)])) ?_
  refine own_by (fun _ k => XS.lstoreN X7.here hx rfl (hb hby at_58) rfl (l' := #[.val (.int p1), .val (.long v1_2), .second, .val (.long v3_9), .second, .unset, .unset]) rfl k) ?_
  show own_Go _ _ _ _ (T7.setTop (mkF m 59 #[.val (.int p1), .val (.long v1_2), .second, .val (.long v3_9), .second, .unset, .unset] []))
  refine own_by (fun _ k => XS.lloadN X7.here hx rfl (hb hby at_59) rfl k) ?_
  show own_Go _ _ _ _ (T7.setTop (mkF m 60 #[.val (.int p1), .val (.long v1_2), .second, .val (.long v3_9), .second, .unset, .unset] [(.long v3_9)]))
  refine own_by (fun _ k => X7.ldc2Long hx hown (mvT hZ (hw _ (List.mem_of_getElem? (i := 14) rfl))) (g := (mkF m 60 #[.val (.int p1), .val (.long v1_2), .second, .val (.long v3_9), .second, .unset, .unset] [(.long v3_9)])) rfl (hb hby at_60) _ k) ?_
  show own_Go _ _ _ _ (T7.setTop (mkF m 63 #[.val (.int p1), .val (.long v1_2), .second, .val (.long v3_9), .second, .unset, .unset] [(.long (-7046029254386353131 : Int64)), (.long v3_9)]))
  obtain ⟨_, _, ⟨T10, L10, k10, n10⟩, -, X10, ⟨Lc10, hQ10, l10, y10, z10⟩, st10⟩ := Jvm.LawKit.callS X7 hx (y := (⟨"com/example/sonde/sonde/automata/LtlSetsHashPinLaw", "inv", "(J)J"⟩ : MethodName)) hown (mvT hZ (hw _ (List.mem_of_getElem? (i := 8) rfl))) (mvT hZ (hw _ (List.mem_of_getElem? (i := 9) rfl))) (mvT hZ (hw _ (List.mem_of_getElem? (i := 10) rfl))) (mvT hZ (hw _ (List.mem_of_getElem? (i := 11) rfl))) (by decide) (backOf (W := 2) (rm2 l Z a0 hw [] (-7046029254386353131 : Int64) h0 n0 Z0) hZ (hw _ (List.mem_of_getElem? (i := 11) rfl)) (hw _ (List.mem_of_getElem? (i := 10) rfl)) (by decide) (by decide)) (g := (mkF m 63 #[.val (.int p1), .val (.long v1_2), .second, .val (.long v3_9), .second, .unset, .unset] [(.long (-7046029254386353131 : Int64)), (.long v3_9)])) rfl (by rw [hml]; rfl) (argsL := [(.long (-7046029254386353131 : Int64))]) (rest := [(.long v3_9)]) (lenOf own_pd1 rfl) rfl (by show 2 * 0 + _ ≤ _; exact Nat.le_of_eq rfl) (hb hby at_63) (fun _ _ => ⟨rfl, e7, Nat.le_of_ble_eq_true rfl, Nat.le_of_ble_eq_true rfl⟩)
  dsimp only [Pt.U, Pt.locs, Pt.cells, Pt.slots] at X10 l10 y10 z10 st10 hQ10
  subst l10 y10 z10
  obtain ⟨rfl, N10q, e10⟩ := hQ10
  have N10 := Fr.app N7 N10q
  refine own_by st10 ?_
  show own_Go _ _ _ _ (T10.setTop (mkF m 66 #[.val (.int p1), .val (.long v1_2), .second, .val (.long v3_9), .second, .unset, .unset] [(.long (own_inv (-7046029254386353131 : Int64))), (.long v3_9)]))
  refine own_by (fun _ k => XS.lmul X10.here hx rfl (hb hby at_66) rfl k) ?_
  show own_Go _ _ _ _ (T10.setTop (mkF m 67 #[.val (.int p1), .val (.long v1_2), .second, .val (.long v3_9), .second, .unset, .unset] [(.long (v3_9 * (own_inv (-7046029254386353131 : Int64))))]))
  obtain ⟨v3_11, hv3_11⟩ : ∃ z_ : Int64, (v3_9 * (own_inv (-7046029254386353131 : Int64))) = z_ := ⟨_, rfl⟩
  refine own_gen hv3_11 (fun z_ => T10.setTop (mkF m 67 #[.val (.int p1), .val (.long v1_2), .second, .val (.long v3_9), .second, .unset, .unset] [(.long z_)])) ?_
  refine own_by (fun _ k => XS.lstoreN X10.here hx rfl (hb hby at_67) rfl (l' := #[.val (.int p1), .val (.long v1_2), .second, .val (.long v3_11), .second, .unset, .unset]) rfl k) ?_
  show own_Go _ _ _ _ (T10.setTop (mkF m 68 #[.val (.int p1), .val (.long v1_2), .second, .val (.long v3_11), .second, .unset, .unset] []))
  refine own_by (fun _ k => XS.iloadN X10.here hx rfl (hb hby at_68) rfl k) ?_
  show own_Go _ _ _ _ (T10.setTop (mkF m 69 #[.val (.int p1), .val (.long v1_2), .second, .val (.long v3_11), .second, .unset, .unset] [(.int p1)]))
  refine own_by (fun _ k => XS.iconst X10.here hx rfl (hb hby at_69) k) ?_
  show own_Go _ _ _ _ (T10.setTop (mkF m 70 #[.val (.int p1), .val (.long v1_2), .second, .val (.long v3_11), .second, .unset, .unset] [(.int (1 : Int32)), (.int p1)]))
  refine own_by (fun _ k => XS.iadd X10.here hx rfl (hb hby at_70) rfl k) ?_
  show own_Go _ _ _ _ (T10.setTop (mkF m 71 #[.val (.int p1), .val (.long v1_2), .second, .val (.long v3_11), .second, .unset, .unset] [(.int (p1 + (1 : Int32)))]))
  refine own_by (fun _ k => XS.i2l X10.here hx rfl (hb hby at_71) rfl k) ?_
  show own_Go _ _ _ _ (T10.setTop (mkF m 72 #[.val (.int p1), .val (.long v1_2), .second, .val (.long v3_11), .second, .unset, .unset] [(.long ((p1 + (1 : Int32)).toInt64))]))
  obtain ⟨v5_12, hv5_12⟩ : ∃ z_ : Int64, ((p1 + (1 : Int32)).toInt64) = z_ := ⟨_, rfl⟩
  refine own_gen hv5_12 (fun z_ => T10.setTop (mkF m 72 #[.val (.int p1), .val (.long v1_2), .second, .val (.long v3_11), .second, .unset, .unset] [(.long z_)])) ?_
  refine own_by (fun _ k => XS.lstore X10.here hx rfl (hb hby at_72) rfl (l' := #[.val (.int p1), .val (.long v1_2), .second, .val (.long v3_11), .second, .val (.long v5_12), .second]) rfl k) ?_
  show own_Go _ _ _ _ (T10.setTop (mkF m 74 #[.val (.int p1), .val (.long v1_2), .second, .val (.long v3_11), .second, .val (.long v5_12), .second] []))
  refine own_by (fun _ k => XS.lloadN X10.here hx rfl (hb hby at_74) rfl k) ?_
  show own_Go _ _ _ _ (T10.setTop (mkF m 75 #[.val (.int p1), .val (.long v1_2), .second, .val (.long v3_11), .second, .val (.long v5_12), .second] [(.long v3_11)]))
  refine own_by (fun _ k => XS.lload X10.here hx rfl (hb hby at_75) rfl k) ?_
  show own_Go _ _ _ _ (T10.setTop (mkF m 77 #[.val (.int p1), .val (.long v1_2), .second, .val (.long v3_11), .second, .val (.long v5_12), .second] [(.long v5_12), (.long v3_11)]))
  refine own_by (fun _ k => XS.lcmp X10.here hx rfl (hb hby at_77) rfl k) ?_
  show own_Go _ _ _ _ (T10.setTop (mkF m 78 #[.val (.int p1), .val (.long v1_2), .second, .val (.long v3_11), .second, .val (.long v5_12), .second] [(.int (lcmpW v3_11 v5_12))]))
  refine own_by (fun _ k => XS.ifNo X10.here hx rfl (hb hby at_78) rfl ((if0 _ _).trans (teq ((lw_eq _ _).mpr (own_fin p1 _ _ _ _ _ _ _ _ hv1_2 hv3_3 hv3_5 hv3_6 hv3_8 hv3_9 hv3_11 hv5_12))).2) k) ?_
  show own_Go _ _ _ _ (T10.setTop (mkF m 81 #[.val (.int p1), .val (.long v1_2), .second, .val (.long v3_11), .second, .val (.long v5_12), .second] []))
  refine own_by (fun _ k => XS.iconst X10.here hx rfl (hb hby at_81) k) ?_
  show own_Go _ _ _ _ (T10.setTop (mkF m 82 #[.val (.int p1), .val (.long v1_2), .second, .val (.long v3_11), .second, .val (.long v5_12), .second] [(.int (1 : Int32))]))
  refine own_by (fun _ k => XS.goto X10.here hx rfl (pc0 := 82) (pc' := 86) rfl (hb hby at_82) (by decide) (by decide) k) ?_
  show own_Go _ _ _ _ (T10.setTop (mkF m 86 #[.val (.int p1), .val (.long v1_2), .second, .val (.long v3_11), .second, .val (.long v5_12), .second] [(.int (1 : Int32))]))
  exact own_retN X10 hx Bd.notSynchronized e10 Bd.returns (by simp) (hb hby at_86) (⟨rfl, N10⟩) (by decide) (by decide)
set_option maxRecDepth 65536 in
set_option maxHeartbeats 40000000 in
theorem comes_1 {Post : Tables → Env → Array Value → State → Outcome → State → Prop} (hpost : ∀ tb e args s v u, (limb_1_1.after args s (.returned v) u = true ∧ limb_1_2.after args s (.returned v) u = true ∧ True) → FrameEnd s (.returned v) u (Jvm.fieldLocs frame_1_writes args s ++ Jvm.arrayLocs frame_1_arrays args s ++ Jvm.staticLocs frame_1_statics s) 0 0 → Post tb e args s (.returned v) u) :
    ArmFor flags0 classFile x code maxLocals ret World_1 tables_1 room_1 Calls_1 rest_1 Pre_1 Post := by
  intro l hfl _ _ p e ha hc hk s m args below hf hA hF happ hP
  obtain ⟨hcalls, hrest, hpre⟩ := hP
  obtain ⟨-, -, -, hnamed, -, -, -, hat⟩ := (Spec.applies_iff hf).mp happ
  obtain ⟨hg, hn⟩ := and_e (Cond.before_iff.mp (show (Jvm.Cond.and given_1 narrow_1).before args s = true from hpre))
  obtain ⟨g1, g2⟩ := and_e hg
  obtain ⟨w0, rfl⟩ : ∃ w0 : Value, args = #[w0] := by
    have hs : args.size = 1 := by simpa [Cond.value, given_1] using g1
    obtain ⟨L⟩ := args
    match L, hs with
    | [w0], _ => exact ⟨w0, rfl⟩
  have hw := fun d (hd : d ∈ tables_1) => atoms_spec (ws := Jvm.Cond.code x code maxLocals ret :: tables_1) hat d (List.mem_cons_of_mem _ hd)
  have hfit : Fit s := fun {y c} hc i hi => by
    obtain ⟨ha, rfl⟩ := Array.getElem?_eq_some_iff.mp hc
    have q := List.all_eq_true.mp ((Array.all_eq_true_iff_forall_mem.mp hF) _ (Array.getElem_mem ha)) i (List.mem_range.mpr hi)
    simpa [Array.getElem?_eq_getElem hi] using q
  obtain ⟨i0, ei0⟩ := is_v g2
  obtain rfl : w0 = (.int i0) := Option.some.inj ei0
  obtain ⟨n, o, h1, h2, h3, _, L, rfl, ⟨rfl, N⟩, hq⟩ := rm0 l s _ hw tables_1 i0 s.heap s.heap.size (Nat.le_refl _) p e ha hc hk s m _ below hf ((Spec.applies_iff_loose hf).mp happ).1 ⟨rfl, State.Warmed39.refl s, rfl⟩ trivial
  refine ⟨n, _, h1, h2, h3, hpost _ _ _ _ _ _ ⟨Cond.after_iff.mpr rfl, Cond.after_iff.mpr (eq_i res_at (Term.int_eval (1)) rfl), trivial⟩ ⟨hq.1, hq.2.1, (hq.2.2.sift fun y hy => Or.inr (N y hy)).mono (by decide) (by decide)⟩⟩
theorem main_1_1 : Claimed_1_1 := comes_1 fun _ _ _ _ _ _ h hF => ⟨h.1, hF⟩
theorem main_1_2 : Claimed_1_2 := comes_1 fun _ _ _ _ _ _ h hF => ⟨h.2.1, hF⟩
end Jvm.Pilot.@@N@@
namespace Jvm.Pilot.@@N@@
open Jvm Jvm.ClassFile Sem Op Lib Jvm.Free Jvm.Stand Jvm.Pilot.@@N@@.Jvm.D
/-! MADE BY PROGRAM (witnessworld.py) out of the Statement's table words and the real class files: 9 classes; the members and pool entries that the words name. The judged class is class 1, her method 2. -/
namespace start1
open Jvm.ClassFile
def u (s : String) : CpInfo := .utf8 (stringToUtf16 s)
/-- a pool by its gaps: so many unusable entries, then the entry; so many at the end -/
def gap : Nat → List CpInfo → List CpInfo
  | 0, r => r
  | n + 1, r => .unusable :: gap n r
def poolList (es : List (Nat × CpInfo)) (last : Nat) : List CpInfo := es.foldr (fun e r => gap e.1 (e.2 :: r)) (gap last [])
def pool (es : List (Nat × CpInfo)) (last : Nat) : Array CpInfo := ⟨poolList es last⟩
def fileOf (pool : Array CpInfo) (this : Nat) (attrs : Array Attribute := #[]) (ms : Array MethodInfo := #[]) (fl : Nat := 33) (sup : Nat := 0) (ifs : Array Nat := #[]) (fds : Array FieldInfo := #[]) : ClassFile where
  minorVersion := 0
  majorVersion := 65
  constantPool := pool
  accessFlags := fl
  thisClass := this
  superClass := sup
  interfaces := ifs
  fields := fds
  methods := ms
  attributes := attrs
def plain (name : String) (sup : Option ClassId) : Class where
  name := name
  kind := .ordinary
  loader := none
  accessFlags := 33
  super := sup
  interfaces := #[]
  cf := none
  fields := #[]
  methods := #[]
  instanceTypes := #[]
  staticTypes := #[]
  resolved := #[]
  callSites := []
  init := .initialized
  statics := none
  mirror := none

def pool0 : Array CpInfo := pool [(5, u "<init>"), (0, u "()V"), (1, .class_ 10), (1, u "java/lang/Object")] 113

def k0m0 : Method := { name := "<init>", desc := "()V", sig := { parameters := [], returnType := none }, accessFlags := 1, code := none }
/-- java/lang/Object -/
def k0 : Class := { plain "java/lang/Object" none with
  accessFlags := 33
  interfaces := #[]
  cf := some (fileOf pool0 8 #[] #[{ accessFlags := 1, nameIndex := 5, descriptorIndex := 6, attributes := #[] }] 33 0 #[] #[])
  fields := #[]
  methods := #[k0m0]
  instanceTypes := #[]
  staticTypes := #[]
  resolved := Array.replicate 124 none
  statics := none }

def pool1 : Array CpInfo := pool [(2, .class_ 4), (1, u "java/lang/Object"), (0, u "<init>"), (0, u "()V"), (0, .long 2), (1, .methodref 10 11), (0, .class_ 12), (0, .nameAndType 13 14), (0, u "com/example/sonde/sonde/automata/LtlSets"), (0, u "hash"), (0, u "(I)J"), (0, .long 10723151780598845931), (1, .methodref 18 19), (0, .class_ 20), (0, .nameAndType 21 22), (0, u "com/example/sonde/sonde/automata/LtlSetsHashPinLaw"), (0, u "inv"), (0, u "(J)J"), (0, .long 13787848793156543929), (1, .long 11400714819323198485), (3, u "law"), (0, u "(I)Z")] 3

def k1m0 : Method := { name := "<init>", desc := "()V", sig := { parameters := [], returnType := none }, accessFlags := 2, code := none }
def k1c1 : Code := { maxStack := 8, maxLocals := 4, code := method_2_code, exceptionTable := #[], attributes := #[] }
def k1m1 : Method := { name := "inv", desc := "(J)J", sig := { parameters := [.long], returnType := some .long }, accessFlags := 10, code := some k1c1 }
def k1c2 : Code := { maxStack := 5, maxLocals := 7, code := code, exceptionTable := #[], attributes := #[] }
def k1m2 : Method := { name := "law", desc := "(I)Z", sig := { parameters := [.int], returnType := some .boolean }, accessFlags := 9, code := some k1c2 }
/-- com/example/sonde/sonde/automata/LtlSetsHashPinLaw -/
def k1 : Class := { plain "com/example/sonde/sonde/automata/LtlSetsHashPinLaw" (some 0) with
  accessFlags := 49
  interfaces := #[]
  cf := some (fileOf pool1 18 #[] #[{ accessFlags := 2, nameIndex := 5, descriptorIndex := 6, attributes := #[] }, { accessFlags := 10, nameIndex := 21, descriptorIndex := 22, attributes := #[] }, { accessFlags := 9, nameIndex := 29, descriptorIndex := 30, attributes := #[] }] 49 2 #[] #[])
  fields := #[]
  methods := #[k1m0, k1m1, k1m2]
  instanceTypes := #[]
  staticTypes := #[]
  resolved := Array.replicate 34 none
  statics := none }

def pool2 : Array CpInfo := pool [(2, .class_ 4), (1, u "java/lang/Object"), (0, u "<init>"), (0, u "()V"), (8, .long 11400714819323198485), (1, .long 13787848793156543929), (1, .long 10723151780598845931), (1, .class_ 22), (0, u "com/example/sonde/sonde/automata/LtlSets"), (10, u "hash"), (0, u "(I)J")] 2

def k2m0 : Method := { name := "<init>", desc := "()V", sig := { parameters := [], returnType := none }, accessFlags := 2, code := none }
def k2c1 : Code := { maxStack := 5, maxLocals := 3, code := prog_60_method_6_code, exceptionTable := #[], attributes := #[] }
def k2m1 : Method := { name := "hash", desc := "(I)J", sig := { parameters := [.int], returnType := some .long }, accessFlags := 8, code := some k2c1 }
/-- com/example/sonde/sonde/automata/LtlSets -/
def k2 : Class := { plain "com/example/sonde/sonde/automata/LtlSets" (some 0) with
  accessFlags := 48
  interfaces := #[]
  cf := some (fileOf pool2 21 #[] #[{ accessFlags := 2, nameIndex := 5, descriptorIndex := 6, attributes := #[] }, { accessFlags := 8, nameIndex := 33, descriptorIndex := 34, attributes := #[] }] 48 2 #[] #[])
  fields := #[]
  methods := #[k2m0, k2m1]
  instanceTypes := #[]
  staticTypes := #[]
  resolved := Array.replicate 37 none
  statics := none }

def pool3 : Array CpInfo := pool [(1, u "java/lang/Cloneable"), (0, .class_ 1), (0, u "java/lang/Object"), (0, .class_ 3)] 3

/-- java/lang/Cloneable -/
def k3 : Class := { plain "java/lang/Cloneable" (some 0) with
  accessFlags := 1537
  interfaces := #[]
  cf := some (fileOf pool3 2 #[] #[] 1537 4 #[] #[])
  fields := #[]
  methods := #[]
  instanceTypes := #[]
  staticTypes := #[]
  resolved := Array.replicate 8 none
  statics := none }

def pool4 : Array CpInfo := pool [(1, u "java/io/Serializable"), (0, .class_ 1), (0, u "java/lang/Object"), (0, .class_ 3)] 3

/-- java/io/Serializable -/
def k4 : Class := { plain "java/io/Serializable" (some 0) with
  accessFlags := 1537
  interfaces := #[]
  cf := some (fileOf pool4 2 #[] #[] 1537 4 #[] #[])
  fields := #[]
  methods := #[]
  instanceTypes := #[]
  staticTypes := #[]
  resolved := Array.replicate 8 none
  statics := none }

/-- the primitive byte -/
def k5 : Class := { plain "byte" none with kind := .primitive 'B', accessFlags := 0x411 }
/-- [B -/
def k6 : Class := { plain "[B" (some 0) with kind := .array 5 .byte, interfaces := #[3, 4], accessFlags := 1041 }

/-- the primitive int -/
def k7 : Class := { plain "int" none with kind := .primitive 'I', accessFlags := 0x411 }
/-- [I -/
def k8 : Class := { plain "[I" (some 0) with kind := .array 7 .int, interfaces := #[3, 4], accessFlags := 1041 }

def heap : Heap := #[]
def classes : Array Class := #[k0, k1, k2, k3, k4, k5, k6, k7, k8]
def interned : List (Array UInt16 × Addr) := []
def slotsUsed : Nat := 0
def theMethod : MethodId := ⟨1, 2⟩
def args0 : Array Value := #[.int 5]
def aboutOver (below : List Frame) : State where
  vm := { classes := classes, interned := interned.toArray }
  heap := heap
  slotsUsed := slotsUsed
  threads := #[{ frames := .invoking theMethod args0 :: below }]
def below0 : List Frame := [.native { method := ⟨0, 0⟩, args := #[] }]
def about1 : State := aboutOver below0
def p0 : Program := .bare "" "" ""
def e0 : Env := launch0.env 0 0 0
theorem w_frames : about1.frames = Frame.invoking theMethod args0 :: below0 := rfl
set_option maxRecDepth 65536 in
theorem w_args : argsFit about1.vm theMethod args0 = true := by decide +kernel
set_option maxRecDepth 65536 in
theorem w_heap : heapFits about1 = true := by decide +kernel
set_option maxRecDepth 65536 in
theorem w_runnable : about1.curStatus? = some .runnable := by decide +kernel
set_option maxRecDepth 65536 in
theorem w_alone : about1.alone = true := by decide +kernel
set_option maxRecDepth 65536 in
theorem w_named : about1.methodNamed? x = some theMethod := by decide +kernel
set_option maxRecDepth 65536 in
theorem w_hears : about1.hears theMethod below0 = true := by decide +kernel
set_option maxRecDepth 65536 in
theorem w_ripe : about1.ripe theMethod args0 below0 = true := by decide +kernel
theorem w_running : about1.status = .running := rfl
set_option maxRecDepth 65536 in
theorem w_room : about1.hasRoom e0.platform room_1 = true :=
  launch0.hasRoom_least _ room_1 (by decide +kernel) (by decide +kernel) (by decide +kernel) (by decide +kernel) (by decide +kernel) (by decide +kernel)
theorem allAtoms_all (ts : List Jvm.Cond) (a : Array Jvm.Value) (st : Jvm.State) : (allAtoms ts).before a st = ts.all (fun c => c.before a st) := by
  induction ts with
  | nil => rfl
  | cons c t ih =>
    show (Jvm.Cond.and c (allAtoms t)).before a st = _
    rw [Jvm.Cond.before_and, ih, List.all_cons]
def words1 : List Jvm.Cond := Jvm.Cond.code x code maxLocals ret :: tables_1
/-- a 'code' word, met by the world's own term for the bytes: nothing is compared byte by byte -/
theorem code_word {y : MethodName} {bytes : ByteArray} {mx : Nat} {rt : Option FieldType} {a : Array Value} {s : State} {m : MethodId} {meth : Method} {c : Code} (h1 : s.methodNamed? y = some m) (h2 : s.vm.method? m = some meth) (h3 : meth.code = some c) (h4 : c.code = bytes)
    (h5 : (c.maxLocals == mx && c.exceptionTable.isEmpty && decide (c.maxStack ≤ mostOperands) && decide (meth.sig.returnType = rt) && !meth.locks && decide (parseMethodDescriptor y.desc = some meth.sig)) = true) : (Jvm.Cond.code y bytes mx rt).before a s = true := by
  simp only [Bool.and_eq_true, beq_iff_eq, Bool.not_eq_true', decide_eq_true_eq] at h5
  obtain ⟨⟨⟨⟨⟨g1, g2⟩, g3⟩, g4⟩, g5⟩, g6⟩ := h5
  simp [Cond.before, Cond.holds, Cond.value, h1, h2, h3, h4, g1, g2, g3, g4, g5, g6]
def isCode : Jvm.Cond → Bool
  | .code _ _ _ _ => true
  | _ => false
theorem all_split {L : List Jvm.Cond} {P : Jvm.Cond → Bool} (h1 : L.all (fun c => isCode c || P c) = true) (h2 : ∀ c ∈ L.filter isCode, P c = true) : L.all P = true := by
  refine List.all_eq_true.mpr fun c hc => ?_
  have h := List.all_eq_true.mp h1 c hc
  rcases Bool.eq_false_or_eq_true (isCode c) with hi | hi
  · exact h2 c (List.mem_filter.mpr ⟨hc, hi⟩)
  · simpa [hi] using h
set_option maxRecDepth 65536 in
theorem w_c0 : (Jvm.Cond.code x code maxLocals ret).before args0 about1 = true := code_word (m := ⟨1, 2⟩) (meth := k1m2) (c := k1c2) (by decide +kernel) rfl rfl rfl (by decide +kernel)
set_option maxRecDepth 65536 in
theorem w_c1 : (Jvm.Cond.code ({ cls := "com/example/sonde/sonde/automata/LtlSets", name := "hash", desc := "(I)J" } : Jvm.MethodName) prog_60_method_6_code (3 : Nat) (Option.some Jvm.ClassFile.FieldType.long)).before args0 about1 = true := code_word (m := ⟨2, 1⟩) (meth := k2m1) (c := k2c1) (by decide +kernel) rfl rfl rfl (by decide +kernel)
set_option maxRecDepth 65536 in
theorem w_c2 : (Jvm.Cond.code ({ cls := "com/example/sonde/sonde/automata/LtlSetsHashPinLaw", name := "inv", desc := "(J)J" } : Jvm.MethodName) method_2_code (4 : Nat) (Option.some Jvm.ClassFile.FieldType.long)).before args0 about1 = true := code_word (m := ⟨1, 1⟩) (meth := k1m1) (c := k1c1) (by decide +kernel) rfl rfl rfl (by decide +kernel)
def codes1 : List Jvm.Cond := [Jvm.Cond.code x code maxLocals ret, Jvm.Cond.code ({ cls := "com/example/sonde/sonde/automata/LtlSets", name := "hash", desc := "(I)J" } : Jvm.MethodName) prog_60_method_6_code (3 : Nat) (Option.some Jvm.ClassFile.FieldType.long), Jvm.Cond.code ({ cls := "com/example/sonde/sonde/automata/LtlSetsHashPinLaw", name := "inv", desc := "(J)J" } : Jvm.MethodName) method_2_code (4 : Nat) (Option.some Jvm.ClassFile.FieldType.long)]
set_option maxRecDepth 65536 in
theorem codes_eq : words1.filter isCode = codes1 := rfl
theorem w_codes : ∀ c ∈ words1.filter isCode, c.before args0 about1 = true := by
  rw [codes_eq]
  intro c hc
  simp only [codes1, List.mem_cons, List.not_mem_nil, or_false] at hc
  rcases hc with rfl | rfl | rfl
  · exact w_c0
  · exact w_c1
  · exact w_c2
set_option maxRecDepth 65536 in
theorem w_t1 : words1.all (fun c => isCode c || c.before args0 about1) = true := by decide +kernel
theorem w_tables : (allAtoms (Jvm.Cond.code x code maxLocals ret :: tables_1)).before args0 about1 = true := by
  rw [allAtoms_all]
  show words1.all (fun c => c.before args0 about1) = true
  refine all_split ?_ w_codes
  rw [w_t1]
set_option maxRecDepth 65536 in
theorem w_case : (Jvm.Cond.and given_1 narrow_1).before args0 about1 = true := by decide +kernel
theorem w_applies : (headSpec (Jvm.Cond.code x code maxLocals ret :: tables_1) room_1).applies x e0.platform about1 = true :=
  (Spec.applies_iff w_frames).mpr ⟨w_running, w_runnable, w_alone, w_named, w_hears, w_ripe, w_room, w_tables⟩
theorem atStart : AtStart classFile x code maxLocals ret World_1 tables_1 room_1 Calls_1 rest_1 Pre_1 launch0 p0 e0 about1 theMethod args0 below0 :=
  ⟨lists_1, trivial, launch0.admits_env _ _ _, launch0.least_env, fairChoices_fair.cas, fairChoices_fair.clock, w_frames, w_args, w_heap, w_applies, trivial, trivial, w_case⟩
end start1
theorem witness_1 : WitnessClaimed_1 := ⟨start1.p0, start1.e0, start1.about1, start1.theMethod, start1.args0, start1.below0, start1.atStart⟩
end Jvm.Pilot.@@N@@
