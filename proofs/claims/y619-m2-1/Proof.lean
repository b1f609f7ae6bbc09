import JvmDerived
import JvmDerived.Pilot.@@N@@Statement
import JvmDerived.Pilot.@@N@@Code
set_option linter.unusedVariables false
set_option linter.unusedSimpArgs false
namespace Jvm.Pilot.@@N@@
open Jvm Jvm.ClassFile Sem Op Lib Jvm.Free Jvm.Stand Jvm.LawKit Jvm.RoadKit Bundle Jvm.Pilot.@@N@@.Jvm.D
section OwnGo
/-! a run that comes to its end: what a body's walk owes, of any state on the way -/
def own_Go (tb : Tables) (e : Env) (below : List Frame) (Q : Outcome → State → Prop) (U : State) : Prop := ∃ s₂ o, Steps tb e below U s₂ ∧ s₂.status = .running ∧ Ended s₂ below o ∧ Q o s₂
theorem own_by {tb : Tables} {e : Env} {below : List Frame} {Q : Outcome → State → Prop} {U V : State} (h : ∀ t, Steps tb e below V t → Steps tb e below U t) (k : own_Go tb e below Q V) : own_Go tb e below Q U := by
  obtain ⟨s2, o, h1, h2⟩ := k; exact ⟨s2, o, h _ h1, h2⟩
theorem own_tr {tb : Tables} {e : Env} {below : List Frame} {Q : Outcome → State → Prop} {U V : State} (h : Steps tb e below U V) (k : own_Go tb e below Q V) : own_Go tb e below Q U := own_by (fun _ q => h.trans q) k
theorem own_gen {α : Type} {x y : α} (h : x = y) {tb : Tables} {e : Env} {below : List Frame} {Q : Outcome → State → Prop} (F : α → State) (k : own_Go tb e below Q (F y)) : own_Go tb e below Q (F x) := h ▸ k
def own_ap (f : Option Value → Heap → List Loc → Prop) (v : Option Value) (h : Heap) (L : List Loc) : Prop := f v h L
/-- what a body's contract says of its end -/
def own_Q (s : State) (Qh : Option Value → Heap → List Loc → Prop) (C S : Nat) (o : Outcome) (U' : State) : Prop := ∃ v L, o = .returned v ∧ Qh v U'.heap L ∧ FrameEnd s o U' L C S
variable {p : Program} {l : Launch} {e : Env} {R : Room} {s : State} {m : MethodId} {args : Array Value} {below : List Frame} {meth : Method} {c : Code} {T : State} {locs : List Loc} {cells slots : Nat} {Z : State} {h : Heap} {a : Addr} {pc : Nat} {Ls : Array Slot} {rest : List Value} {Qh : Option Value → Heap → List Loc → Prop} {C S : Nat} {Q : Outcome → State → Prop}
theorem own_leave (X : Stand p l e R s m args below meth c T locs cells slots) (hlk : meth.locks = false) {v : Option Value} (hv : meth.sig.returnType = none → v = none) {f : JFrame}
    (hst : ∀ fs, (∀ (f : JFrame) (acts : List Action), f.method = m → f.locked = none → f.entered = [] → (doReturn e (T.setTop f) acts v).1 = T.setFrames fs) → Steps p.tables e below (T.setTop f) (T.setFrames fs))
    (hq : Qh v T.heap locs) (hC : cells ≤ C) (hS : slots ≤ S) : own_Go p.tables e below (own_Q s Qh C S) (T.setTop f) := by
  obtain ⟨fs, hr, hrun, hended, hW, hsame⟩ := X.leave (v := v) hv hlk
  exact ⟨_, _, hst fs hr, hrun, hended, _, _, rfl, hq, ⟨_, rfl⟩, hW, hsame.mono hC hS⟩
theorem own_retI (X : Stand p l e R s m args below meth c T locs cells slots) (hx : p.tables.exec = Jvm.exec) (hlk : meth.locks = false) (eT : T.heap = h) (hret : meth.sig.returnType = some .int) {z : Int32} (hd : decode c.code pc = .ok (.ireturn, 1))
    (hq : Qh (some (.int z)) h locs) (hC : cells ≤ C) (hS : slots ≤ S) : own_Go p.tables e below (own_Q s Qh C S) (T.setTop (mkF m pc Ls (.int z :: rest))) :=
  own_leave X hlk (v := some (.int z)) (fun q => by rw [hret] at q; cases q) (fun fs hr => retOut X hx hret rfl (Or.inl ⟨rfl, Or.inl rfl, z, rfl⟩) hd hr) (eT ▸ hq) hC hS
theorem own_retN (X : Stand p l e R s m args below meth c T locs cells slots) (hx : p.tables.exec = Jvm.exec) (hlk : meth.locks = false) (eT : T.heap = h) {t : FieldType} (hret : meth.sig.returnType = some t) (ht : t = .boolean ∨ t = .byte ∨ t = .char ∨ t = .short) {z : Int32} (hd : decode c.code pc = .ok (.ireturn, 1))
    (hq : Qh (some (.int (nar t z))) h locs) (hC : cells ≤ C) (hS : slots ≤ S) : own_Go p.tables e below (own_Q s Qh C S) (T.setTop (mkF m pc Ls (.int z :: rest))) :=
  own_leave X hlk (v := some (.int (nar t z))) (fun q => by rw [hret] at q; cases q) (fun fs hr => retN X hx hret ht hd hr) (eT ▸ hq) hC hS
theorem own_retJ (X : Stand p l e R s m args below meth c T locs cells slots) (hx : p.tables.exec = Jvm.exec) (hlk : meth.locks = false) (eT : T.heap = h) (hret : meth.sig.returnType = some .long) {z : Int64} (hd : decode c.code pc = .ok (.lreturn, 1))
    (hq : Qh (some (.long z)) h locs) (hC : cells ≤ C) (hS : slots ≤ S) : own_Go p.tables e below (own_Q s Qh C S) (T.setTop (mkF m pc Ls (.long z :: rest))) :=
  own_leave X hlk (v := some (.long z)) (fun q => by rw [hret] at q; cases q) (fun fs hr => retOut X hx hret rfl (Or.inr (Or.inl ⟨rfl, rfl, z, rfl⟩)) hd hr) (eT ▸ hq) hC hS
theorem own_retA (X : Stand p l e R s m args below meth c T locs cells slots) (hx : p.tables.exec = Jvm.exec) (hlk : meth.locks = false) (eT : T.heap = h) {t : FieldType} (hret : meth.sig.returnType = some t) (ht : t.isReference = true) {w : Value} (hn : narrow t w = w) (hw : w.isRef = true) (hd : decode c.code pc = .ok (.areturn, 1))
    (hq : Qh (some w) h locs) (hC : cells ≤ C) (hS : slots ≤ S) : own_Go p.tables e below (own_Q s Qh C S) (T.setTop (mkF m pc Ls (w :: rest))) :=
  own_leave X hlk (v := some w) (fun q => by rw [hret] at q; cases q) (fun fs hr => retOut X hx hret hn (Or.inr (Or.inr (Or.inr (Or.inr ⟨rfl, ht, hw⟩)))) hd hr) (eT ▸ hq) hC hS
theorem own_retV (X : Stand p l e R s m args below meth c T locs cells slots) (hx : p.tables.exec = Jvm.exec) (hlk : meth.locks = false) (eT : T.heap = h) (hret : meth.sig.returnType = none) (hd : decode c.code pc = .ok (.return_, 1))
    (hq : Qh none h locs) (hC : cells ≤ C) (hS : slots ≤ S) : own_Go p.tables e below (own_Q s Qh C S) (T.setTop (mkF m pc Ls [])) :=
  own_leave X hlk (v := none) (fun _ => rfl) (fun fs hr => X.returnOut hx hret hd hr) (eT ▸ hq) hC hS
/-! an array by its places -/
def own_upd {α : Type} (f : Nat → α) (k : Nat) (v : α) : Nat → α := fun j => if j = k then v else f j
theorem own_upd_eq {α : Type} (f : Nat → α) (k : Nat) (v : α) : own_upd f k v k = v := by simp [own_upd]
theorem own_upd_ne {α : Type} (f : Nat → α) {k j : Nat} (v : α) (q : j ≠ k) : own_upd f k v j = f j := by simp [own_upd, q]
def own_Ar (Z : State) (h : Heap) (a : Addr) (ty : FieldType) (n : Nat) (f : Nat → Value) : Prop := ∃ cl : Cell, Arr Z h a cl ty ∧ cl.slots.size = n ∧ ∀ j, j < n → cl.slots[j]? = some (f j)
/-- ints and what is kept as ints -/
abbrev own_AI (Z : State) (h : Heap) (a : Addr) (ty : FieldType) (n : Nat) (f : Nat → Int32) : Prop := own_Ar Z h a ty n (fun j => .int (f j))
abbrev own_AJ (Z : State) (h : Heap) (a : Addr) (n : Nat) (f : Nat → Int64) : Prop := own_Ar Z h a .long n (fun j => .long (f j))
section
variable {h' : Heap} {b : Addr} {ty : FieldType} {n : Nat} {f : Nat → Value} {v : Value} {sl : Nat} {ws : List Addr}
theorem own_Ar.lt (A : own_Ar Z h a ty n f) : a < h.size := by obtain ⟨cl, q, -⟩ := A; exact q.lt
theorem own_Ar.ext (A : own_Ar Z h a ty n f) (E : Ext h h') : own_Ar Z h' a ty n f := by obtain ⟨cl, q, r⟩ := A; exact ⟨cl, q.ext E, r⟩
theorem own_Ar.other (A : own_Ar Z h a ty n f) (W : Wr h h' b sl v) (q : a ≠ b) : own_Ar Z h' a ty n f := by obtain ⟨cl, r, r'⟩ := A; exact ⟨cl, r.other W q, r'⟩
theorem own_Ar.keep (A : own_Ar Z h a ty n f) (K : Keep h h' ws) (q : a ∉ ws) : own_Ar Z h' a ty n f := by obtain ⟨cl, r, r'⟩ := A; exact ⟨cl, ⟨K.2.1 _ _ r.1 q, r.2⟩, r'⟩
theorem own_Ar.congr (A : own_Ar Z h a ty n f) {g : Nat → Value} (q : ∀ j, j < n → f j = g j) : own_Ar Z h a ty n g := by obtain ⟨cl, r, r1, r2⟩ := A; exact ⟨cl, r, r1, fun j hj => by rw [r2 j hj, q j hj]⟩
theorem own_in {j : Int32} {k n : Nat} (hk : j.toInt = (k : Int)) (hn : k < n) {cl : Cell} (S : cl.slots.size = n) : ¬ (j < 0 ∨ cl.slots.size ≤ j.toNatClampNeg) ∧ j.toNatClampNeg = k := by
  have q : j.toNatClampNeg = k := by simp [Int32.toNatClampNeg, hk]
  refine ⟨fun r => ?_, q⟩
  rcases r with r | r
  · rw [Int32.lt_iff_toInt_lt] at r; simp only [Int32.reduceToInt] at r; omega
  · omega
theorem own_Ar.set (A : own_Ar Z h a ty n f) {k : Nat} (hk : k < n) (W : Wr h h' a k v) : own_Ar Z h' a ty n (own_upd f k v) := by
  obtain ⟨cl, r, r1, r2⟩ := A
  refine ⟨_, r.same W, by rw [sz_set]; exact r1, fun j hj => ?_⟩
  show (cl.slots.setIfInBounds k v)[j]? = _
  by_cases q : j = k
  · subst q; simp [own_upd, r1, hj]
  · rw [Array.getElem?_setIfInBounds_ne (fun y => q y.symm), r2 j hj, own_upd_ne _ _ q]
end
theorem own_bal (X : Stand p l e R s m args below meth c T locs cells slots) (hx : p.tables.exec = Jvm.exec) (hZ : Z.Warmed39 s.vm) (eT : T.heap = h) {n : Nat} {f : Nat → Value} (A : own_Ar Z h a .byte n f) {j : Int32} (k : Nat) (hk : j.toInt = (k : Int)) (hn : k < n) (hd : decode c.code pc = .ok (.baload, 1)) {t : State}
    (kt : Steps p.tables e below (T.setTop (mkF m (pc + 1) Ls (f k :: rest))) t) : Steps p.tables e below (T.setTop (mkF m pc Ls (.int j :: .ref a :: rest))) t := by
  obtain ⟨cl, r, r1, r2⟩ := A
  obtain ⟨q1, q2⟩ := own_in hk hn r1
  exact X.baloadBytes hx (j := j) (v := f k) (by rw [eT]; exact r.1) (State.isArrayOf_alike hZ.alike r.2.1) r.2.2 q1 (by rw [q2]; exact r2 k hn) (g := mkF m pc Ls (.int j :: .ref a :: rest)) rfl rfl hd _ kt
theorem own_ial (X : Stand p l e R s m args below meth c T locs cells slots) (hx : p.tables.exec = Jvm.exec) (hZ : Z.Warmed39 s.vm) (eT : T.heap = h) {n : Nat} {f : Nat → Value} (A : own_Ar Z h a .int n f) {j : Int32} (k : Nat) (hk : j.toInt = (k : Int)) (hn : k < n) (hd : decode c.code pc = .ok (.iaload, 1)) {t : State}
    (kt : Steps p.tables e below (T.setTop (mkF m (pc + 1) Ls (f k :: rest))) t) : Steps p.tables e below (T.setTop (mkF m pc Ls (.int j :: .ref a :: rest))) t := by
  obtain ⟨cl, r, r1, r2⟩ := A
  obtain ⟨q1, q2⟩ := own_in hk hn r1
  exact X.iaload hx (j := j) (v := f k) (by rw [eT]; exact r.1) (State.isArrayOf_alike hZ.alike r.2.1) r.2.2 q1 (by rw [q2]; exact r2 k hn) (g := mkF m pc Ls (.int j :: .ref a :: rest)) rfl rfl hd _ kt
theorem own_lal (X : Stand p l e R s m args below meth c T locs cells slots) (hx : p.tables.exec = Jvm.exec) (hZ : Z.Warmed39 s.vm) (eT : T.heap = h) {n : Nat} {f : Nat → Value} (A : own_Ar Z h a .long n f) {j : Int32} (k : Nat) (hk : j.toInt = (k : Int)) (hn : k < n) (hd : decode c.code pc = .ok (.laload, 1)) {t : State}
    (kt : Steps p.tables e below (T.setTop (mkF m (pc + 1) Ls (f k :: rest))) t) : Steps p.tables e below (T.setTop (mkF m pc Ls (.int j :: .ref a :: rest))) t := by
  obtain ⟨cl, r, r1, r2⟩ := A
  obtain ⟨q1, q2⟩ := own_in hk hn r1
  exact X.laload hx (j := j) (v := f k) (by rw [eT]; exact r.1) (State.isArrayOf_alike hZ.alike r.2.1) r.2.2 q1 (by rw [q2]; exact r2 k hn) (g := mkF m pc Ls (.int j :: .ref a :: rest)) rfl rfl hd _ kt
theorem own_len (X : Stand p l e R s m args below meth c T locs cells slots) (hx : p.tables.exec = Jvm.exec) (hZ : Z.Warmed39 s.vm) (eT : T.heap = h) {ty : FieldType} {n : Nat} {f : Nat → Value} (A : own_Ar Z h a ty n f) (z : Int32) (hz : z = n.toInt32) (hd : decode c.code pc = .ok (.arraylength, 1)) {t : State}
    (kt : Steps p.tables e below (T.setTop (mkF m (pc + 1) Ls (.int z :: rest))) t) : Steps p.tables e below (T.setTop (mkF m pc Ls (.ref a :: rest))) t := by
  obtain ⟨cl, r, r1, r2⟩ := A
  refine X.arraylength hx (by rw [eT]; exact r.1) (State.isArrayOf_alike hZ.alike r.2.1) (g := mkF m pc Ls (.ref a :: rest)) rfl rfl hd _ ?_
  rw [r1, ← hz]; exact kt
theorem own_bas (X : Stand p l e R s m args below meth c T locs cells slots) (hx : p.tables.exec = Jvm.exec) (hZ : Z.Warmed39 s.vm) (eT : T.heap = h) {n : Nat} {f : Nat → Int32} (A : own_AI Z h a .byte n f) {j x : Int32} (k : Nat) (hk : j.toInt = (k : Int)) (hn : k < n) (hd : decode c.code pc = .ok (.bastore, 1))
    (K : ∀ T' h', Stand p l e R s m args below meth c T' (locs ++ [⟨a, k⟩]) cells slots → T'.heap = h' → Wr h h' a k (.int (nar .byte x)) → own_AI Z h' a .byte n (own_upd f k (nar .byte x)) → own_Go p.tables e below Q (T'.setTop (mkF m (pc + 1) Ls rest))) :
    own_Go p.tables e below Q (T.setTop (mkF m pc Ls (.int x :: .int j :: .ref a :: rest))) := by
  obtain ⟨cl, r, r1, r2⟩ := id A
  obtain ⟨q1, q2⟩ := own_in hk hn r1
  obtain ⟨T', h', X', e', W, st⟩ := stB X hx hZ eT r (j := j) (x := x) q1 (g := mkF m pc Ls (.int x :: .int j :: .ref a :: rest)) rfl rfl hd
  rw [q2] at X' W
  exact own_by st (K T' h' X' e' W ((A.set hn W).congr fun i hi => by simp only [own_upd]; split <;> rfl))
theorem own_ias (X : Stand p l e R s m args below meth c T locs cells slots) (hx : p.tables.exec = Jvm.exec) (hZ : Z.Warmed39 s.vm) (eT : T.heap = h) {n : Nat} {f : Nat → Int32} (A : own_AI Z h a .int n f) {j x : Int32} (k : Nat) (hk : j.toInt = (k : Int)) (hn : k < n) (hd : decode c.code pc = .ok (.iastore, 1))
    (K : ∀ T' h', Stand p l e R s m args below meth c T' (locs ++ [⟨a, k⟩]) cells slots → T'.heap = h' → Wr h h' a k (.int x) → own_AI Z h' a .int n (own_upd f k x) → own_Go p.tables e below Q (T'.setTop (mkF m (pc + 1) Ls rest))) :
    own_Go p.tables e below Q (T.setTop (mkF m pc Ls (.int x :: .int j :: .ref a :: rest))) := by
  obtain ⟨cl, r, r1, r2⟩ := id A
  obtain ⟨q1, q2⟩ := own_in hk hn r1
  obtain ⟨T', h', X', e', W, st⟩ := stI X hx hZ eT r (j := j) (x := x) q1 (g := mkF m pc Ls (.int x :: .int j :: .ref a :: rest)) rfl rfl hd
  rw [q2] at X' W
  exact own_by st (K T' h' X' e' W ((A.set hn W).congr fun i hi => by simp only [own_upd]; split <;> rfl))
theorem own_las (X : Stand p l e R s m args below meth c T locs cells slots) (hx : p.tables.exec = Jvm.exec) (hZ : Z.Warmed39 s.vm) (eT : T.heap = h) {n : Nat} {f : Nat → Int64} (A : own_AJ Z h a n f) {j : Int32} {x : Int64} (k : Nat) (hk : j.toInt = (k : Int)) (hn : k < n) (hd : decode c.code pc = .ok (.lastore, 1))
    (K : ∀ T' h', Stand p l e R s m args below meth c T' (locs ++ [⟨a, k⟩]) cells slots → T'.heap = h' → Wr h h' a k (.long x) → own_AJ Z h' a n (own_upd f k x) → own_Go p.tables e below Q (T'.setTop (mkF m (pc + 1) Ls rest))) :
    own_Go p.tables e below Q (T.setTop (mkF m pc Ls (.long x :: .int j :: .ref a :: rest))) := by
  obtain ⟨cl, r, r1, r2⟩ := id A
  obtain ⟨q1, q2⟩ := own_in hk hn r1
  obtain ⟨T', h', X', e', W, st⟩ := stJ X hx hZ eT r (j := j) (x := x) q1 (g := mkF m pc Ls (.long x :: .int j :: .ref a :: rest)) rfl rfl hd
  rw [q2] at X' W
  exact own_by st (K T' h' X' e' W ((A.set hn W).congr fun i hi => by simp only [own_upd]; split <;> rfl))
theorem own_newP (X : Stand p l e R s m args below meth c T locs cells slots) (hx : p.tables.exec = Jvm.exec) (hZ : Z.Warmed39 s.vm) {a0 : Array Value} {aty : ArrayType} (w : (Cond.arrayClass (newarray.typeOf aty)).before a0 Z = true) (eT : T.heap = h) {n : Int32} (k : Nat) (hk : n.toInt = (k : Int)) (cap : Nat) (hcap : k ≤ cap) (hb : cap * 8 ≤ 536870912) (hc : cells + 1 ≤ R.cells) (hl : slots + cap ≤ R.slots)
    (hd : decode c.code pc = .ok (.newarray aty, 2))
    (K : ∀ T' h', Stand p l e R s m args below meth c T' locs (cells + 1) (slots + cap) → T'.heap = h' → Ext h h' → own_Ar Z h' h.size (newarray.typeOf aty) k (fun _ => defaultValue (newarray.typeOf aty)) → own_Go p.tables e below Q (T'.setTop (mkF m (pc + 2) Ls (.ref h.size :: rest)))) :
    own_Go p.tables e below Q (T.setTop (mkF m pc Ls (.int n :: rest))) := by
  have q : n.toNatClampNeg = k := by simp [Int32.toNatClampNeg, hk]
  have q0 : ¬ n < 0 := by rw [Int32.lt_iff_toInt_lt]; simp only [Int32.reduceToInt]; omega
  obtain ⟨T', h', kk, X', e', E, A, st⟩ := newP X hx hZ w eT (n := n) (g := mkF m pc Ls (.int n :: rest)) rfl hd rfl q0 (cap := cap) (by rw [q]; exact hcap) hb hc hl
  refine own_by st (K T' h' X' e' E ⟨_, A, by rw [sz_new, q], fun j hj => ?_⟩)
  simp [newA, q, hj]
theorem own_size_wr {h h' : Heap} {b : Addr} {sl : Nat} {v : Value} {n0 : Nat} (W : Wr h h' b sl v) (q : n0 ≤ h.size) : n0 ≤ h'.size := by rw [W.size]; exact q
end OwnGo
theorem own_bit255 (j : Nat) : (255#64).getLsbD j = decide (j < 8) := by
  have e : (255#64 : BitVec 64) = (BitVec.allOnes 8).setWidth 64 := by decide
  rw [e, BitVec.getLsbD_setWidth, BitVec.getLsbD_allOnes]
  by_cases h : j < 8
  · simp [h, show j < 64 by omega]
  · simp [h]
theorem own_low (y : BitVec 64) : ((((y.signExtend 32).signExtend 8).signExtend 32).signExtend 64) &&& 255#64 = y &&& 255#64 := by
  apply BitVec.eq_of_getLsbD_eq
  intro i hi
  simp only [BitVec.getLsbD_and, own_bit255, BitVec.getLsbD_signExtend]
  by_cases h : i < 8
  · simp [h, hi, show i < 32 by omega]
  · simp [h]
theorem own_sh (y : BitVec 64) (n : Nat) : ((y >>> n) &&& 255#64) <<< n = y &&& (255#64 <<< n) := by
  apply BitVec.eq_of_getLsbD_eq
  intro i hi
  simp only [BitVec.getLsbD_and, BitVec.getLsbD_shiftLeft, BitVec.getLsbD_ushiftRight, own_bit255, hi, decide_true, Bool.true_and]
  by_cases h : i < n
  · simp [h]
  · have e : n + (i - n) = i := by omega
    simp [h, e]
theorem own_ssr (y : BitVec 64) (n : Nat) (hn : n ≤ 56) : (y.sshiftRight n) &&& 255#64 = (y >>> n) &&& 255#64 := by
  apply BitVec.eq_of_getLsbD_eq
  intro i hi
  simp only [BitVec.getLsbD_and, own_bit255, BitVec.getLsbD_sshiftRight, BitVec.getLsbD_ushiftRight]
  by_cases h : i < 8
  · have e : n + i < 64 := by omega
    have e2 : ¬ 64 ≤ i := by omega
    simp [h, e, e2]
  · simp [h]
theorem own_lshl_bv (x : Int64) (q : Int32) (k : Nat) (hk : q.toBitVec.toNat % 64 = k) : (x <<< (q &&& 0x3f).toInt64).toBitVec = x.toBitVec <<< k := by
  obtain ⟨e, h⟩ := sm64 q k hk
  rw [Int64.toBitVec_shiftLeft, e, BitVec.shiftLeft_eq', smod64 k h]
theorem own_lshr_bv (x : Int64) (q : Int32) (k : Nat) (hk : q.toBitVec.toNat % 64 = k) : (x >>> (q &&& 0x3f).toInt64).toBitVec = x.toBitVec.sshiftRight k := by
  obtain ⟨e, h⟩ := sm64 q k hk
  rw [Int64.toBitVec_shiftRight, e, BitVec.sshiftRight_eq', smod64 k h]
theorem own_lushr_bv (x : Int64) (q : Int32) (k : Nat) (hk : q.toBitVec.toNat % 64 = k) : ((x.toUInt64 >>> (q &&& 0x3f).toInt64.toUInt64).toInt64).toBitVec = x.toBitVec >>> k := by
  obtain ⟨e, h⟩ := sm64 q k hk
  show (x.toUInt64 >>> (q &&& 0x3f).toInt64.toUInt64).toBitVec = _
  rw [UInt64.toBitVec_shiftRight]
  show x.toBitVec >>> ((q &&& 0x3f).toInt64.toBitVec % 64) = _
  rw [e, BitVec.ushiftRight_eq']
  congr 1
  simp; omega
/-- the byte b of the long whose bits are y, as the law puts it back -/
theorem own_byte (w : Int64) : (((nar .byte (w.toInt32.toInt8.toInt32)).toInt64 &&& (255 : Int64)).toBitVec) = w.toBitVec &&& 255#64 := by
  have e : nar .byte (w.toInt32.toInt8.toInt32) = w.toInt32.toInt8.toInt32 := by simp only [nar, Int8.toInt8_toInt32]
  rw [e, Int64.toBitVec_and, Int32.toBitVec_toInt64, Int8.toBitVec_toInt32, Int32.toBitVec_toInt8, Int64.toBitVec_toInt32, show (255 : Int64).toBitVec = 255#64 from rfl]
  exact own_low _
theorem own_tS (v : Int64) (b : Int32) (q q' : Int32) (k : Nat) (hb : b = nar .byte ((v >>> (q &&& 0x3f).toInt64).toInt32.toInt8.toInt32)) (hk : q.toBitVec.toNat % 64 = k) (hk' : q'.toBitVec.toNat % 64 = k) (h : k ≤ 56) :
    ((b.toInt64 &&& (255 : Int64)) <<< (q' &&& 0x3f).toInt64).toBitVec = v.toBitVec &&& (255#64 <<< k) := by
  rw [own_lshl_bv _ q' k hk', hb, own_byte, own_lshr_bv _ q k hk, own_ssr _ _ h, own_sh]
theorem own_tU (v : Int64) (b : Int32) (q q' : Int32) (k : Nat) (hb : b = nar .byte (((v.toUInt64 >>> (q &&& 0x3f).toInt64.toUInt64).toInt64).toInt32.toInt8.toInt32)) (hk : q.toBitVec.toNat % 64 = k) (hk' : q'.toBitVec.toNat % 64 = k) :
    ((b.toInt64 &&& (255 : Int64)) <<< (q' &&& 0x3f).toInt64).toBitVec = v.toBitVec &&& (255#64 <<< k) := by
  rw [own_lshl_bv _ q' k hk', hb, own_byte, own_lushr_bv _ q k hk, own_sh]
theorem own_all (y : BitVec 64) : y &&& (255#64 <<< 0) ||| y &&& (255#64 <<< 8) ||| y &&& (255#64 <<< 16) ||| y &&& (255#64 <<< 24) ||| y &&& (255#64 <<< 32) ||| y &&& (255#64 <<< 40) ||| y &&& (255#64 <<< 48) ||| y &&& (255#64 <<< 56) = y := by
  simp only [← BitVec.and_or_distrib_left]
  rw [show (255#64 <<< 0 ||| 255#64 <<< 8 ||| 255#64 <<< 16 ||| 255#64 <<< 24 ||| 255#64 <<< 32 ||| 255#64 <<< 40 ||| 255#64 <<< 48 ||| 255#64 <<< 56) = BitVec.allOnes 64 by decide +kernel, BitVec.and_allOnes]
theorem own_math (v : Int64) (f : Nat → Int32) (h0 : f 0 = nar .byte (((v.toUInt64 >>> ((0 : Int32) &&& 0x3f).toInt64.toUInt64).toInt64).toInt32.toInt8.toInt32)) (h1 : f 1 = nar .byte (((v.toUInt64 >>> ((8 : Int32) &&& 0x3f).toInt64.toUInt64).toInt64).toInt32.toInt8.toInt32)) (h2 : f 2 = nar .byte (((v.toUInt64 >>> ((16 : Int32) &&& 0x3f).toInt64.toUInt64).toInt64).toInt32.toInt8.toInt32)) (h3 : f 3 = nar .byte (((v.toUInt64 >>> ((24 : Int32) &&& 0x3f).toInt64.toUInt64).toInt64).toInt32.toInt8.toInt32)) (h4 : f 4 = nar .byte (((v.toUInt64 >>> ((32 : Int32) &&& 0x3f).toInt64.toUInt64).toInt64).toInt32.toInt8.toInt32)) (h5 : f 5 = nar .byte (((v.toUInt64 >>> ((40 : Int32) &&& 0x3f).toInt64.toUInt64).toInt64).toInt32.toInt8.toInt32)) (h6 : f 6 = nar .byte (((v.toUInt64 >>> ((48 : Int32) &&& 0x3f).toInt64.toUInt64).toInt64).toInt32.toInt8.toInt32)) (h7 : f 7 = nar .byte (((v.toUInt64 >>> ((56 : Int32) &&& 0x3f).toInt64.toUInt64).toInt64).toInt32.toInt8.toInt32)) : (((((((((f 0).toInt64 &&& (255 : Int64)) ||| (((f 1).toInt64 &&& (255 : Int64)) <<< ((8 : Int32) &&& 0x3f).toInt64)) ||| (((f 2).toInt64 &&& (255 : Int64)) <<< ((16 : Int32) &&& 0x3f).toInt64)) ||| (((f 3).toInt64 &&& (255 : Int64)) <<< ((24 : Int32) &&& 0x3f).toInt64)) ||| (((f 4).toInt64 &&& (255 : Int64)) <<< ((32 : Int32) &&& 0x3f).toInt64)) ||| (((f 5).toInt64 &&& (255 : Int64)) <<< ((40 : Int32) &&& 0x3f).toInt64)) ||| (((f 6).toInt64 &&& (255 : Int64)) <<< ((48 : Int32) &&& 0x3f).toInt64)) ||| (((f 7).toInt64 &&& (255 : Int64)) <<< ((56 : Int32) &&& 0x3f).toInt64)) = v := by
  have t0 : ((f 0).toInt64 &&& (255 : Int64)).toBitVec = v.toBitVec &&& (255#64 <<< 0) := by rw [h0, own_byte, own_lushr_bv v 0 0 (by decide)]; simp
  have t1 := own_tU v (f 1) (8 : Int32) (8 : Int32) 8 h1 (by decide) (by decide)
  have t2 := own_tU v (f 2) (16 : Int32) (16 : Int32) 16 h2 (by decide) (by decide)
  have t3 := own_tU v (f 3) (24 : Int32) (24 : Int32) 24 h3 (by decide) (by decide)
  have t4 := own_tU v (f 4) (32 : Int32) (32 : Int32) 32 h4 (by decide) (by decide)
  have t5 := own_tU v (f 5) (40 : Int32) (40 : Int32) 40 h5 (by decide) (by decide)
  have t6 := own_tU v (f 6) (48 : Int32) (48 : Int32) 48 h6 (by decide) (by decide)
  have t7 := own_tU v (f 7) (56 : Int32) (56 : Int32) 56 h7 (by decide) (by decide)
  apply Int64.toBitVec_inj.mp
  simp only [Int64.toBitVec_or, t0, t1, t2, t3, t4, t5, t6, t7]
  exact own_all _
theorem own_pd0 : parseMethodDescriptor "(J)[B" = some ⟨[.long], some (.array .byte)⟩ := by decide +kernel
theorem d1_0 : decode prog_71_method_2_code 0 = .ok (.bipush 8, 2) := by decide +kernel
theorem d1_2 : decode prog_71_method_2_code 2 = .ok (.newarray .byte, 2) := by decide +kernel
theorem d1_4 : decode prog_71_method_2_code 4 = .ok (.astore_n 2, 1) := by decide +kernel
theorem d1_5 : decode prog_71_method_2_code 5 = .ok (.iconst 0, 1) := by decide +kernel
theorem d1_6 : decode prog_71_method_2_code 6 = .ok (.istore_n 3, 1) := by decide +kernel
theorem d1_7 : decode prog_71_method_2_code 7 = .ok (.iload_n 3, 1) := by decide +kernel
theorem d1_8 : decode prog_71_method_2_code 8 = .ok (.bipush 8, 2) := by decide +kernel
theorem d1_10 : decode prog_71_method_2_code 10 = .ok (.if_icmp .ge 20, 3) := by decide +kernel
theorem d1_13 : decode prog_71_method_2_code 13 = .ok (.aload_n 2, 1) := by decide +kernel
theorem d1_14 : decode prog_71_method_2_code 14 = .ok (.iload_n 3, 1) := by decide +kernel
theorem d1_15 : decode prog_71_method_2_code 15 = .ok (.lload_n 0, 1) := by decide +kernel
theorem d1_16 : decode prog_71_method_2_code 16 = .ok (.bipush 8, 2) := by decide +kernel
theorem d1_18 : decode prog_71_method_2_code 18 = .ok (.iload_n 3, 1) := by decide +kernel
theorem d1_19 : decode prog_71_method_2_code 19 = .ok (.imul, 1) := by decide +kernel
theorem d1_20 : decode prog_71_method_2_code 20 = .ok (.lushr, 1) := by decide +kernel
theorem d1_21 : decode prog_71_method_2_code 21 = .ok (.l2i, 1) := by decide +kernel
theorem d1_22 : decode prog_71_method_2_code 22 = .ok (.i2b, 1) := by decide +kernel
theorem d1_23 : decode prog_71_method_2_code 23 = .ok (.bastore, 1) := by decide +kernel
theorem d1_24 : decode prog_71_method_2_code 24 = .ok (.iinc 3 1, 3) := by decide +kernel
theorem d1_27 : decode prog_71_method_2_code 27 = .ok (.goto (-20), 3) := by decide +kernel
theorem d1_30 : decode prog_71_method_2_code 30 = .ok (.aload_n 2, 1) := by decide +kernel
theorem d1_31 : decode prog_71_method_2_code 31 = .ok (.areturn, 1) := by decide +kernel
theorem pn_1 : plainName "com/example/harvester_ant/harvesterant/storage/Counters" = true := by first | (simp [plainName, overriddenIn]; done) | decide +kernel
theorem pn_0 : plainName "com/example/harvester_ant/harvesterant/storage/CountersBytesPinLaw" = true := by first | (simp [plainName, overriddenIn]; done) | decide +kernel
def own_bf (q1 : Int64) : Nat → Int32 := (own_upd (own_upd (own_upd (own_upd (own_upd (own_upd (own_upd (own_upd (fun _ => 0) 0 (nar .byte ((((q1.toUInt64 >>> ((0 : Int32) &&& 0x3f).toInt64.toUInt64).toInt64).toInt32).toInt8.toInt32))) 1 (nar .byte ((((q1.toUInt64 >>> ((8 : Int32) &&& 0x3f).toInt64.toUInt64).toInt64).toInt32).toInt8.toInt32))) 2 (nar .byte ((((q1.toUInt64 >>> ((16 : Int32) &&& 0x3f).toInt64.toUInt64).toInt64).toInt32).toInt8.toInt32))) 3 (nar .byte ((((q1.toUInt64 >>> ((24 : Int32) &&& 0x3f).toInt64.toUInt64).toInt64).toInt32).toInt8.toInt32))) 4 (nar .byte ((((q1.toUInt64 >>> ((32 : Int32) &&& 0x3f).toInt64.toUInt64).toInt64).toInt32).toInt8.toInt32))) 5 (nar .byte ((((q1.toUInt64 >>> ((40 : Int32) &&& 0x3f).toInt64.toUInt64).toInt64).toInt32).toInt8.toInt32))) 6 (nar .byte ((((q1.toUInt64 >>> ((48 : Int32) &&& 0x3f).toInt64.toUInt64).toInt64).toInt32).toInt8.toInt32))) 7 (nar .byte ((((q1.toUInt64 >>> ((56 : Int32) &&& 0x3f).toInt64.toUInt64).toInt64).toInt32).toInt8.toInt32)))
set_option maxRecDepth 65536 in
set_option maxHeartbeats 40000000 in
theorem rm1 (l : Launch) (Z : State) (a0 : Array Value) (hw : ∀ d ∈ tables_1, d.before a0 Z = true) (ws : List Jvm.Cond) (q1 : Int64)  (h0 : Heap) (n0 : Nat) (Z0 : n0 ≤ h0.size) :
    MetFree l (⟨"com/example/harvester_ant/harvesterant/storage/Counters", "bytes", "(J)[B"⟩ : MethodName) (head1 (Jvm.Cond.code (⟨"com/example/harvester_ant/harvesterant/storage/Counters", "bytes", "(J)[B"⟩ : MethodName) prog_71_method_2_code 4 (some (.array .byte)) :: ws) ({ frames := 0, cells := 1, slots := 8, locals := 0 } : Room)) (fun a U => a = #[(.long q1)] ∧ Z.Warmed39 U.vm ∧ U.heap = h0) (fun _ _ _ _ _ => True) (fun _ U o U' => ∃ v L, o = .returned v ∧ own_ap (fun v h L => v = some (.ref h0.size) ∧ Fr n0 L ∧ Keep h0 h [] ∧ own_AI Z h h0.size .byte 8 (own_bf q1)) v U'.heap L ∧ FrameEnd U o U' L 1 8) := by
  refine MetFree.of_bodySF (plainFor_of_name pn_1) hisR ?_
  intro p e s m args below meth c s₁ Bd hml0 hP hK
  obtain ⟨rfl, hZ, hh⟩ := hP
  have hx := Bd.exec
  have hby := Bd.bytes
  have hml : c.maxLocals = 4 := hml0
  have hown : s.vm.findClass "com/example/harvester_ant/harvesterant/storage/Counters" = some m.cls := findClass_of_methodNamed Bd.named
  have hnm := (name_of_methodNamed Bd.named Bd.method).1
  have X0 : Stand p l e ({ frames := 0, cells := 1, slots := 8, locals := 0 } : Room) s m #[(.long q1)] below meth c s₁ [] 0 0 := Stand.of_body Bd
  have e0 : s₁.heap = h0 := by rw [← hh, Bd.state]; rfl
  have N0 := Fr.nil n0
  show own_Go p.tables e below (own_Q s (fun v h L => v = some (.ref h0.size) ∧ Fr n0 L ∧ Keep h0 h [] ∧ own_AI Z h h0.size .byte 8 (own_bf q1)) 1 8) (s₁.setTop (entryFrame m #[(.long q1)] 4))
  rw [show entryFrame m #[(.long q1)] 4 = mkF m 0 #[.val (.long q1), .second, .unset, .unset] [] from by first | (simp [entryFrame, mkF, argsToLocals, Value.category]; done) | rfl]
  show own_Go _ _ _ _ (s₁.setTop (mkF m 0 #[.val (.long q1), .second, .unset, .unset] []))
  refine own_by (fun _ k => XS.bipush X0.here hx rfl (hb hby d1_0) k) ?_
  show own_Go _ _ _ _ (s₁.setTop (mkF m 2 #[.val (.long q1), .second, .unset, .unset] [(.int (8 : Int32))]))
  refine own_newP X0 hx hZ (hw _ (List.mem_of_getElem? (i := 4) rfl)) e0 8 (by decide) 8 (by decide) (by decide) (by decide) (by decide) (hb hby d1_2) ?_
  intro T1 h1 X1 e1 E1 A1
  show own_Go _ _ _ _ (T1.setTop (mkF m 4 #[.val (.long q1), .second, .unset, .unset] [.ref h0.size]))
  obtain ⟨b1, g1⟩ : ∃ z, z = h0.size := ⟨_, rfl⟩
  rw [← g1] at A1
  refine own_gen g1.symm (fun z_ => T1.setTop (mkF m 4 #[.val (.long q1), .second, .unset, .unset] [.ref z_])) ?_
  have ge1 : n0 ≤ b1 := Nat.le_trans Z0 (Nat.le_of_eq g1.symm)
  have nw1 : h0.size ≤ b1 := Nat.le_trans (Keep.refl h0 []).1 (Nat.le_of_eq g1.symm)
  have f2 := (Keep.refl h0 []).ext E1
  have Z1 := Nat.le_trans Z0 E1.1
  have f3 : own_AI Z h1 b1 .byte 8 (fun _ => 0) := A1
  show own_Go _ _ _ _ (T1.setTop (mkF m 4 #[.val (.long q1), .second, .unset, .unset] [(.ref b1)]))
  refine own_by (fun _ k => XS.astoreN X1.here hx rfl (hb hby d1_4) rfl rfl (l' := #[.val (.long q1), .second, .val (.ref b1), .unset]) rfl k) ?_
  show own_Go _ _ _ _ (T1.setTop (mkF m 5 #[.val (.long q1), .second, .val (.ref b1), .unset] []))
  refine own_by (fun _ k => XS.iconst X1.here hx rfl (hb hby d1_5) k) ?_
  show own_Go _ _ _ _ (T1.setTop (mkF m 6 #[.val (.long q1), .second, .val (.ref b1), .unset] [(.int (0 : Int32))]))
  refine own_by (fun _ k => XS.istoreN X1.here hx rfl (hb hby d1_6) rfl (l' := #[.val (.long q1), .second, .val (.ref b1), .val (.int (0 : Int32))]) rfl k) ?_
  show own_Go _ _ _ _ (T1.setTop (mkF m 7 #[.val (.long q1), .second, .val (.ref b1), .val (.int (0 : Int32))] []))
  refine own_by (fun _ k => XS.iloadN X1.here hx rfl (hb hby d1_7) rfl k) ?_
  show own_Go _ _ _ _ (T1.setTop (mkF m 8 #[.val (.long q1), .second, .val (.ref b1), .val (.int (0 : Int32))] [(.int (0 : Int32))]))
  refine own_by (fun _ k => XS.bipush X1.here hx rfl (hb hby d1_8) k) ?_
  show own_Go _ _ _ _ (T1.setTop (mkF m 10 #[.val (.long q1), .second, .val (.ref b1), .val (.int (0 : Int32))] [(.int (8 : Int32)), (.int (0 : Int32))]))
  refine own_by (fun _ k => XS.icmpNo X1.here hx rfl (hb hby d1_10) rfl (tlt (by decide)).2.1 k) ?_
  show own_Go _ _ _ _ (T1.setTop (mkF m 13 #[.val (.long q1), .second, .val (.ref b1), .val (.int (0 : Int32))] []))
  refine own_by (fun _ k => XS.aloadN X1.here hx rfl (hb hby d1_13) rfl rfl k) ?_
  show own_Go _ _ _ _ (T1.setTop (mkF m 14 #[.val (.long q1), .second, .val (.ref b1), .val (.int (0 : Int32))] [(.ref b1)]))
  refine own_by (fun _ k => XS.iloadN X1.here hx rfl (hb hby d1_14) rfl k) ?_
  show own_Go _ _ _ _ (T1.setTop (mkF m 15 #[.val (.long q1), .second, .val (.ref b1), .val (.int (0 : Int32))] [(.int (0 : Int32)), (.ref b1)]))
  refine own_by (fun _ k => XS.lloadN X1.here hx rfl (hb hby d1_15) rfl k) ?_
  show own_Go _ _ _ _ (T1.setTop (mkF m 16 #[.val (.long q1), .second, .val (.ref b1), .val (.int (0 : Int32))] [(.long q1), (.int (0 : Int32)), (.ref b1)]))
  refine own_by (fun _ k => XS.bipush X1.here hx rfl (hb hby d1_16) k) ?_
  show own_Go _ _ _ _ (T1.setTop (mkF m 18 #[.val (.long q1), .second, .val (.ref b1), .val (.int (0 : Int32))] [(.int (8 : Int32)), (.long q1), (.int (0 : Int32)), (.ref b1)]))
  refine own_by (fun _ k => XS.iloadN X1.here hx rfl (hb hby d1_18) rfl k) ?_
  show own_Go _ _ _ _ (T1.setTop (mkF m 19 #[.val (.long q1), .second, .val (.ref b1), .val (.int (0 : Int32))] [(.int (0 : Int32)), (.int (8 : Int32)), (.long q1), (.int (0 : Int32)), (.ref b1)]))
  refine own_by (fun _ k => XS.imul X1.here hx rfl (hb hby d1_19) rfl k) ?_
  show own_Go _ _ _ _ (T1.setTop (mkF m 20 #[.val (.long q1), .second, .val (.ref b1), .val (.int (0 : Int32))] [(.int ((8 : Int32) * (0 : Int32))), (.long q1), (.int (0 : Int32)), (.ref b1)]))
  rw [(by decide : ((8 : Int32) * (0 : Int32)) = (0 : Int32))]
  show own_Go _ _ _ _ (T1.setTop (mkF m 20 #[.val (.long q1), .second, .val (.ref b1), .val (.int (0 : Int32))] [(.int (0 : Int32)), (.long q1), (.int (0 : Int32)), (.ref b1)]))
  refine own_by (fun _ k => XS.lushr X1.here hx rfl (hb hby d1_20) rfl k) ?_
  show own_Go _ _ _ _ (T1.setTop (mkF m 21 #[.val (.long q1), .second, .val (.ref b1), .val (.int (0 : Int32))] [(.long ((q1.toUInt64 >>> ((0 : Int32) &&& 0x3f).toInt64.toUInt64).toInt64)), (.int (0 : Int32)), (.ref b1)]))
  refine own_by (fun _ k => XS.l2i X1.here hx rfl (hb hby d1_21) rfl k) ?_
  show own_Go _ _ _ _ (T1.setTop (mkF m 22 #[.val (.long q1), .second, .val (.ref b1), .val (.int (0 : Int32))] [(.int (((q1.toUInt64 >>> ((0 : Int32) &&& 0x3f).toInt64.toUInt64).toInt64).toInt32)), (.int (0 : Int32)), (.ref b1)]))
  refine own_by (fun _ k => XS.i2b X1.here hx rfl (hb hby d1_22) rfl k) ?_
  show own_Go _ _ _ _ (T1.setTop (mkF m 23 #[.val (.long q1), .second, .val (.ref b1), .val (.int (0 : Int32))] [(.int ((((q1.toUInt64 >>> ((0 : Int32) &&& 0x3f).toInt64.toUInt64).toInt64).toInt32).toInt8.toInt32)), (.int (0 : Int32)), (.ref b1)]))
  refine own_bas X1 hx hZ e1 f3 0 (by decide) (by decide) (hb hby d1_23) ?_
  intro T4 h4 X4 e4 W4 A4
  have f5 := f2.wr W4 (Or.inr nw1)
  have N4 := Fr.snoc X4 N0 ge1
  have Z4 := own_size_wr W4 Z1
  show own_Go _ _ _ _ (T4.setTop (mkF m 24 #[.val (.long q1), .second, .val (.ref b1), .val (.int (0 : Int32))] []))
  refine own_by (fun _ k => XS.iinc X4.here hx rfl (hb hby d1_24) rfl (l' := #[.val (.long q1), .second, .val (.ref b1), .val (.int ((0 : Int32) + (1 : Int32)))]) rfl k) ?_
  show own_Go _ _ _ _ (T4.setTop (mkF m 27 #[.val (.long q1), .second, .val (.ref b1), .val (.int ((0 : Int32) + (1 : Int32)))] []))
  rw [(by decide : ((0 : Int32) + (1 : Int32)) = (1 : Int32))]
  show own_Go _ _ _ _ (T4.setTop (mkF m 27 #[.val (.long q1), .second, .val (.ref b1), .val (.int (1 : Int32))] []))
  refine own_by (fun _ k => XS.goto X4.here hx rfl (pc0 := 27) (pc' := 7) rfl (hb hby d1_27) (by decide) (by decide) k) ?_
  show own_Go _ _ _ _ (T4.setTop (mkF m 7 #[.val (.long q1), .second, .val (.ref b1), .val (.int (1 : Int32))] []))
  refine own_by (fun _ k => XS.iloadN X4.here hx rfl (hb hby d1_7) rfl k) ?_
  show own_Go _ _ _ _ (T4.setTop (mkF m 8 #[.val (.long q1), .second, .val (.ref b1), .val (.int (1 : Int32))] [(.int (1 : Int32))]))
  refine own_by (fun _ k => XS.bipush X4.here hx rfl (hb hby d1_8) k) ?_
  show own_Go _ _ _ _ (T4.setTop (mkF m 10 #[.val (.long q1), .second, .val (.ref b1), .val (.int (1 : Int32))] [(.int (8 : Int32)), (.int (1 : Int32))]))
  refine own_by (fun _ k => XS.icmpNo X4.here hx rfl (hb hby d1_10) rfl (tlt (by decide)).2.1 k) ?_
  show own_Go _ _ _ _ (T4.setTop (mkF m 13 #[.val (.long q1), .second, .val (.ref b1), .val (.int (1 : Int32))] []))
  refine own_by (fun _ k => XS.aloadN X4.here hx rfl (hb hby d1_13) rfl rfl k) ?_
  show own_Go _ _ _ _ (T4.setTop (mkF m 14 #[.val (.long q1), .second, .val (.ref b1), .val (.int (1 : Int32))] [(.ref b1)]))
  refine own_by (fun _ k => XS.iloadN X4.here hx rfl (hb hby d1_14) rfl k) ?_
  show own_Go _ _ _ _ (T4.setTop (mkF m 15 #[.val (.long q1), .second, .val (.ref b1), .val (.int (1 : Int32))] [(.int (1 : Int32)), (.ref b1)]))
  refine own_by (fun _ k => XS.lloadN X4.here hx rfl (hb hby d1_15) rfl k) ?_
  show own_Go _ _ _ _ (T4.setTop (mkF m 16 #[.val (.long q1), .second, .val (.ref b1), .val (.int (1 : Int32))] [(.long q1), (.int (1 : Int32)), (.ref b1)]))
  refine own_by (fun _ k => XS.bipush X4.here hx rfl (hb hby d1_16) k) ?_
  show own_Go _ _ _ _ (T4.setTop (mkF m 18 #[.val (.long q1), .second, .val (.ref b1), .val (.int (1 : Int32))] [(.int (8 : Int32)), (.long q1), (.int (1 : Int32)), (.ref b1)]))
  refine own_by (fun _ k => XS.iloadN X4.here hx rfl (hb hby d1_18) rfl k) ?_
  show own_Go _ _ _ _ (T4.setTop (mkF m 19 #[.val (.long q1), .second, .val (.ref b1), .val (.int (1 : Int32))] [(.int (1 : Int32)), (.int (8 : Int32)), (.long q1), (.int (1 : Int32)), (.ref b1)]))
  refine own_by (fun _ k => XS.imul X4.here hx rfl (hb hby d1_19) rfl k) ?_
  show own_Go _ _ _ _ (T4.setTop (mkF m 20 #[.val (.long q1), .second, .val (.ref b1), .val (.int (1 : Int32))] [(.int ((8 : Int32) * (1 : Int32))), (.long q1), (.int (1 : Int32)), (.ref b1)]))
  rw [(by decide : ((8 : Int32) * (1 : Int32)) = (8 : Int32))]
  show own_Go _ _ _ _ (T4.setTop (mkF m 20 #[.val (.long q1), .second, .val (.ref b1), .val (.int (1 : Int32))] [(.int (8 : Int32)), (.long q1), (.int (1 : Int32)), (.ref b1)]))
  refine own_by (fun _ k => XS.lushr X4.here hx rfl (hb hby d1_20) rfl k) ?_
  show own_Go _ _ _ _ (T4.setTop (mkF m 21 #[.val (.long q1), .second, .val (.ref b1), .val (.int (1 : Int32))] [(.long ((q1.toUInt64 >>> ((8 : Int32) &&& 0x3f).toInt64.toUInt64).toInt64)), (.int (1 : Int32)), (.ref b1)]))
  refine own_by (fun _ k => XS.l2i X4.here hx rfl (hb hby d1_21) rfl k) ?_
  show own_Go _ _ _ _ (T4.setTop (mkF m 22 #[.val (.long q1), .second, .val (.ref b1), .val (.int (1 : Int32))] [(.int (((q1.toUInt64 >>> ((8 : Int32) &&& 0x3f).toInt64.toUInt64).toInt64).toInt32)), (.int (1 : Int32)), (.ref b1)]))
  refine own_by (fun _ k => XS.i2b X4.here hx rfl (hb hby d1_22) rfl k) ?_
  show own_Go _ _ _ _ (T4.setTop (mkF m 23 #[.val (.long q1), .second, .val (.ref b1), .val (.int (1 : Int32))] [(.int ((((q1.toUInt64 >>> ((8 : Int32) &&& 0x3f).toInt64.toUInt64).toInt64).toInt32).toInt8.toInt32)), (.int (1 : Int32)), (.ref b1)]))
  refine own_bas X4 hx hZ e4 A4 1 (by decide) (by decide) (hb hby d1_23) ?_
  intro T6 h6 X6 e6 W6 A6
  have f7 := f5.wr W6 (Or.inr nw1)
  have N6 := Fr.snoc X6 N4 ge1
  have Z6 := own_size_wr W6 Z4
  show own_Go _ _ _ _ (T6.setTop (mkF m 24 #[.val (.long q1), .second, .val (.ref b1), .val (.int (1 : Int32))] []))
  refine own_by (fun _ k => XS.iinc X6.here hx rfl (hb hby d1_24) rfl (l' := #[.val (.long q1), .second, .val (.ref b1), .val (.int ((1 : Int32) + (1 : Int32)))]) rfl k) ?_
  show own_Go _ _ _ _ (T6.setTop (mkF m 27 #[.val (.long q1), .second, .val (.ref b1), .val (.int ((1 : Int32) + (1 : Int32)))] []))
  rw [(by decide : ((1 : Int32) + (1 : Int32)) = (2 : Int32))]
  show own_Go _ _ _ _ (T6.setTop (mkF m 27 #[.val (.long q1), .second, .val (.ref b1), .val (.int (2 : Int32))] []))
  refine own_by (fun _ k => XS.goto X6.here hx rfl (pc0 := 27) (pc' := 7) rfl (hb hby d1_27) (by decide) (by decide) k) ?_
  show own_Go _ _ _ _ (T6.setTop (mkF m 7 #[.val (.long q1), .second, .val (.ref b1), .val (.int (2 : Int32))] []))
  refine own_by (fun _ k => XS.iloadN X6.here hx rfl (hb hby d1_7) rfl k) ?_
  show own_Go _ _ _ _ (T6.setTop (mkF m 8 #[.val (.long q1), .second, .val (.ref b1), .val (.int (2 : Int32))] [(.int (2 : Int32))]))
  refine own_by (fun _ k => XS.bipush X6.here hx rfl (hb hby d1_8) k) ?_
  show own_Go _ _ _ _ (T6.setTop (mkF m 10 #[.val (.long q1), .second, .val (.ref b1), .val (.int (2 : Int32))] [(.int (8 : Int32)), (.int (2 : Int32))]))
  refine own_by (fun _ k => XS.icmpNo X6.here hx rfl (hb hby d1_10) rfl (tlt (by decide)).2.1 k) ?_
  show own_Go _ _ _ _ (T6.setTop (mkF m 13 #[.val (.long q1), .second, .val (.ref b1), .val (.int (2 : Int32))] []))
  refine own_by (fun _ k => XS.aloadN X6.here hx rfl (hb hby d1_13) rfl rfl k) ?_
  show own_Go _ _ _ _ (T6.setTop (mkF m 14 #[.val (.long q1), .second, .val (.ref b1), .val (.int (2 : Int32))] [(.ref b1)]))
  refine own_by (fun _ k => XS.iloadN X6.here hx rfl (hb hby d1_14) rfl k) ?_
  show own_Go _ _ _ _ (T6.setTop (mkF m 15 #[.val (.long q1), .second, .val (.ref b1), .val (.int (2 : Int32))] [(.int (2 : Int32)), (.ref b1)]))
  refine own_by (fun _ k => XS.lloadN X6.here hx rfl (hb hby d1_15) rfl k) ?_
  show own_Go _ _ _ _ (T6.setTop (mkF m 16 #[.val (.long q1), .second, .val (.ref b1), .val (.int (2 : Int32))] [(.long q1), (.int (2 : Int32)), (.ref b1)]))
  refine own_by (fun _ k => XS.bipush X6.here hx rfl (hb hby d1_16) k) ?_
  show own_Go _ _ _ _ (T6.setTop (mkF m 18 #[.val (.long q1), .second, .val (.ref b1), .val (.int (2 : Int32))] [(.int (8 : Int32)), (.long q1), (.int (2 : Int32)), (.ref b1)]))
  refine own_by (fun _ k => XS.iloadN X6.here hx rfl (hb hby d1_18) rfl k) ?_
  show own_Go _ _ _ _ (T6.setTop (mkF m 19 #[.val (.long q1), .second, .val (.ref b1), .val (.int (2 : Int32))] [(.int (2 : Int32)), (.int (8 : Int32)), (.long q1), (.int (2 : Int32)), (.ref b1)]))
  refine own_by (fun _ k => XS.imul X6.here hx rfl (hb hby d1_19) rfl k) ?_
  show own_Go _ _ _ _ (T6.setTop (mkF m 20 #[.val (.long q1), .second, .val (.ref b1), .val (.int (2 : Int32))] [(.int ((8 : Int32) * (2 : Int32))), (.long q1), (.int (2 : Int32)), (.ref b1)]))
  rw [(by decide : ((8 : Int32) * (2 : Int32)) = (16 : Int32))]
  show own_Go _ _ _ _ (T6.setTop (mkF m 20 #[.val (.long q1), .second, .val (.ref b1), .val (.int (2 : Int32))] [(.int (16 : Int32)), (.long q1), (.int (2 : Int32)), (.ref b1)]))
  refine own_by (fun _ k => XS.lushr X6.here hx rfl (hb hby d1_20) rfl k) ?_
  show own_Go _ _ _ _ (T6.setTop (mkF m 21 #[.val (.long q1), .second, .val (.ref b1), .val (.int (2 : Int32))] [(.long ((q1.toUInt64 >>> ((16 : Int32) &&& 0x3f).toInt64.toUInt64).toInt64)), (.int (2 : Int32)), (.ref b1)]))
  refine own_by (fun _ k => XS.l2i X6.here hx rfl (hb hby d1_21) rfl k) ?_
  show own_Go _ _ _ _ (T6.setTop (mkF m 22 #[.val (.long q1), .second, .val (.ref b1), .val (.int (2 : Int32))] [(.int (((q1.toUInt64 >>> ((16 : Int32) &&& 0x3f).toInt64.toUInt64).toInt64).toInt32)), (.int (2 : Int32)), (.ref b1)]))
  refine own_by (fun _ k => XS.i2b X6.here hx rfl (hb hby d1_22) rfl k) ?_
  show own_Go _ _ _ _ (T6.setTop (mkF m 23 #[.val (.long q1), .second, .val (.ref b1), .val (.int (2 : Int32))] [(.int ((((q1.toUInt64 >>> ((16 : Int32) &&& 0x3f).toInt64.toUInt64).toInt64).toInt32).toInt8.toInt32)), (.int (2 : Int32)), (.ref b1)]))
  refine own_bas X6 hx hZ e6 A6 2 (by decide) (by decide) (hb hby d1_23) ?_
  intro T8 h8 X8 e8 W8 A8
  have f9 := f7.wr W8 (Or.inr nw1)
  have N8 := Fr.snoc X8 N6 ge1
  have Z8 := own_size_wr W8 Z6
  show own_Go _ _ _ _ (T8.setTop (mkF m 24 #[.val (.long q1), .second, .val (.ref b1), .val (.int (2 : Int32))] []))
  refine own_by (fun _ k => XS.iinc X8.here hx rfl (hb hby d1_24) rfl (l' := #[.val (.long q1), .second, .val (.ref b1), .val (.int ((2 : Int32) + (1 : Int32)))]) rfl k) ?_
  show own_Go _ _ _ _ (T8.setTop (mkF m 27 #[.val (.long q1), .second, .val (.ref b1), .val (.int ((2 : Int32) + (1 : Int32)))] []))
  rw [(by decide : ((2 : Int32) + (1 : Int32)) = (3 : Int32))]
  show own_Go _ _ _ _ (T8.setTop (mkF m 27 #[.val (.long q1), .second, .val (.ref b1), .val (.int (3 : Int32))] []))
  refine own_by (fun _ k => XS.goto X8.here hx rfl (pc0 := 27) (pc' := 7) rfl (hb hby d1_27) (by decide) (by decide) k) ?_
  show own_Go _ _ _ _ (T8.setTop (mkF m 7 #[.val (.long q1), .second, .val (.ref b1), .val (.int (3 : Int32))] []))
  refine own_by (fun _ k => XS.iloadN X8.here hx rfl (hb hby d1_7) rfl k) ?_
  show own_Go _ _ _ _ (T8.setTop (mkF m 8 #[.val (.long q1), .second, .val (.ref b1), .val (.int (3 : Int32))] [(.int (3 : Int32))]))
  refine own_by (fun _ k => XS.bipush X8.here hx rfl (hb hby d1_8) k) ?_
  show own_Go _ _ _ _ (T8.setTop (mkF m 10 #[.val (.long q1), .second, .val (.ref b1), .val (.int (3 : Int32))] [(.int (8 : Int32)), (.int (3 : Int32))]))
  refine own_by (fun _ k => XS.icmpNo X8.here hx rfl (hb hby d1_10) rfl (tlt (by decide)).2.1 k) ?_
  show own_Go _ _ _ _ (T8.setTop (mkF m 13 #[.val (.long q1), .second, .val (.ref b1), .val (.int (3 : Int32))] []))
  refine own_by (fun _ k => XS.aloadN X8.here hx rfl (hb hby d1_13) rfl rfl k) ?_
  show own_Go _ _ _ _ (T8.setTop (mkF m 14 #[.val (.long q1), .second, .val (.ref b1), .val (.int (3 : Int32))] [(.ref b1)]))
  refine own_by (fun _ k => XS.iloadN X8.here hx rfl (hb hby d1_14) rfl k) ?_
  show own_Go _ _ _ _ (T8.setTop (mkF m 15 #[.val (.long q1), .second, .val (.ref b1), .val (.int (3 : Int32))] [(.int (3 : Int32)), (.ref b1)]))
  refine own_by (fun _ k => XS.lloadN X8.here hx rfl (hb hby d1_15) rfl k) ?_
  show own_Go _ _ _ _ (T8.setTop (mkF m 16 #[.val (.long q1), .second, .val (.ref b1), .val (.int (3 : Int32))] [(.long q1), (.int (3 : Int32)), (.ref b1)]))
  refine own_by (fun _ k => XS.bipush X8.here hx rfl (hb hby d1_16) k) ?_
  show own_Go _ _ _ _ (T8.setTop (mkF m 18 #[.val (.long q1), .second, .val (.ref b1), .val (.int (3 : Int32))] [(.int (8 : Int32)), (.long q1), (.int (3 : Int32)), (.ref b1)]))
  refine own_by (fun _ k => XS.iloadN X8.here hx rfl (hb hby d1_18) rfl k) ?_
  show own_Go _ _ _ _ (T8.setTop (mkF m 19 #[.val (.long q1), .second, .val (.ref b1), .val (.int (3 : Int32))] [(.int (3 : Int32)), (.int (8 : Int32)), (.long q1), (.int (3 : Int32)), (.ref b1)]))
  refine own_by (fun _ k => XS.imul X8.here hx rfl (hb hby d1_19) rfl k) ?_
  show own_Go _ _ _ _ (T8.setTop (mkF m 20 #[.val (.long q1), .second, .val (.ref b1), .val (.int (3 : Int32))] [(.int ((8 : Int32) * (3 : Int32))), (.long q1), (.int (3 : Int32)), (.ref b1)]))
  rw [(by decide : ((8 : Int32) * (3 : Int32)) = (24 : Int32))]
  show own_Go _ _ _ _ (T8.setTop (mkF m 20 #[.val (.long q1), .second, .val (.ref b1), .val (.int (3 : Int32))] [(.int (24 : Int32)), (.long q1), (.int (3 : Int32)), (.ref b1)]))
  refine own_by (fun _ k => XS.lushr X8.here hx rfl (hb hby d1_20) rfl k) ?_
  show own_Go _ _ _ _ (T8.setTop (mkF m 21 #[.val (.long q1), .second, .val (.ref b1), .val (.int (3 : Int32))] [(.long ((q1.toUInt64 >>> ((24 : Int32) &&& 0x3f).toInt64.toUInt64).toInt64)), (.int (3 : Int32)), (.ref b1)]))
  refine own_by (fun _ k => XS.l2i X8.here hx rfl (hb hby d1_21) rfl k) ?_
  show own_Go _ _ _ _ (T8.setTop (mkF m 22 #[.val (.long q1), .second, .val (.ref b1), .val (.int (3 : Int32))] [(.int (((q1.toUInt64 >>> ((24 : Int32) &&& 0x3f).toInt64.toUInt64).toInt64).toInt32)), (.int (3 : Int32)), (.ref b1)]))
  refine own_by (fun _ k => XS.i2b X8.here hx rfl (hb hby d1_22) rfl k) ?_
  show own_Go _ _ _ _ (T8.setTop (mkF m 23 #[.val (.long q1), .second, .val (.ref b1), .val (.int (3 : Int32))] [(.int ((((q1.toUInt64 >>> ((24 : Int32) &&& 0x3f).toInt64.toUInt64).toInt64).toInt32).toInt8.toInt32)), (.int (3 : Int32)), (.ref b1)]))
  refine own_bas X8 hx hZ e8 A8 3 (by decide) (by decide) (hb hby d1_23) ?_
  intro T10 h10 X10 e10 W10 A10
  have f11 := f9.wr W10 (Or.inr nw1)
  have N10 := Fr.snoc X10 N8 ge1
  have Z10 := own_size_wr W10 Z8
  show own_Go _ _ _ _ (T10.setTop (mkF m 24 #[.val (.long q1), .second, .val (.ref b1), .val (.int (3 : Int32))] []))
  refine own_by (fun _ k => XS.iinc X10.here hx rfl (hb hby d1_24) rfl (l' := #[.val (.long q1), .second, .val (.ref b1), .val (.int ((3 : Int32) + (1 : Int32)))]) rfl k) ?_
  show own_Go _ _ _ _ (T10.setTop (mkF m 27 #[.val (.long q1), .second, .val (.ref b1), .val (.int ((3 : Int32) + (1 : Int32)))] []))
  rw [(by decide : ((3 : Int32) + (1 : Int32)) = (4 : Int32))]
  show own_Go _ _ _ _ (T10.setTop (mkF m 27 #[.val (.long q1), .second, .val (.ref b1), .val (.int (4 : Int32))] []))
  refine own_by (fun _ k => XS.goto X10.here hx rfl (pc0 := 27) (pc' := 7) rfl (hb hby d1_27) (by decide) (by decide) k) ?_
  show own_Go _ _ _ _ (T10.setTop (mkF m 7 #[.val (.long q1), .second, .val (.ref b1), .val (.int (4 : Int32))] []))
  refine own_by (fun _ k => XS.iloadN X10.here hx rfl (hb hby d1_7) rfl k) ?_
  show own_Go _ _ _ _ (T10.setTop (mkF m 8 #[.val (.long q1), .second, .val (.ref b1), .val (.int (4 : Int32))] [(.int (4 : Int32))]))
  refine own_by (fun _ k => XS.bipush X10.here hx rfl (hb hby d1_8) k) ?_
  show own_Go _ _ _ _ (T10.setTop (mkF m 10 #[.val (.long q1), .second, .val (.ref b1), .val (.int (4 : Int32))] [(.int (8 : Int32)), (.int (4 : Int32))]))
  refine own_by (fun _ k => XS.icmpNo X10.here hx rfl (hb hby d1_10) rfl (tlt (by decide)).2.1 k) ?_
  show own_Go _ _ _ _ (T10.setTop (mkF m 13 #[.val (.long q1), .second, .val (.ref b1), .val (.int (4 : Int32))] []))
  refine own_by (fun _ k => XS.aloadN X10.here hx rfl (hb hby d1_13) rfl rfl k) ?_
  show own_Go _ _ _ _ (T10.setTop (mkF m 14 #[.val (.long q1), .second, .val (.ref b1), .val (.int (4 : Int32))] [(.ref b1)]))
  refine own_by (fun _ k => XS.iloadN X10.here hx rfl (hb hby d1_14) rfl k) ?_
  show own_Go _ _ _ _ (T10.setTop (mkF m 15 #[.val (.long q1), .second, .val (.ref b1), .val (.int (4 : Int32))] [(.int (4 : Int32)), (.ref b1)]))
  refine own_by (fun _ k => XS.lloadN X10.here hx rfl (hb hby d1_15) rfl k) ?_
  show own_Go _ _ _ _ (T10.setTop (mkF m 16 #[.val (.long q1), .second, .val (.ref b1), .val (.int (4 : Int32))] [(.long q1), (.int (4 : Int32)), (.ref b1)]))
  refine own_by (fun _ k => XS.bipush X10.here hx rfl (hb hby d1_16) k) ?_
  show own_Go _ _ _ _ (T10.setTop (mkF m 18 #[.val (.long q1), .second, .val (.ref b1), .val (.int (4 : Int32))] [(.int (8 : Int32)), (.long q1), (.int (4 : Int32)), (.ref b1)]))
  refine own_by (fun _ k => XS.iloadN X10.here hx rfl (hb hby d1_18) rfl k) ?_
  show own_Go _ _ _ _ (T10.setTop (mkF m 19 #[.val (.long q1), .second, .val (.ref b1), .val (.int (4 : Int32))] [(.int (4 : Int32)), (.int (8 : Int32)), (.long q1), (.int (4 : Int32)), (.ref b1)]))
  refine own_by (fun _ k => XS.imul X10.here hx rfl (hb hby d1_19) rfl k) ?_
  show own_Go _ _ _ _ (T10.setTop (mkF m 20 #[.val (.long q1), .second, .val (.ref b1), .val (.int (4 : Int32))] [(.int ((8 : Int32) * (4 : Int32))), (.long q1), (.int (4 : Int32)), (.ref b1)]))
  rw [(by decide : ((8 : Int32) * (4 : Int32)) = (32 : Int32))]
  show own_Go _ _ _ _ (T10.setTop (mkF m 20 #[.val (.long q1), .second, .val (.ref b1), .val (.int (4 : Int32))] [(.int (32 : Int32)), (.long q1), (.int (4 : Int32)), (.ref b1)]))
  refine own_by (fun _ k => XS.lushr X10.here hx rfl (hb hby d1_20) rfl k) ?_
  show own_Go _ _ _ _ (T10.setTop (mkF m 21 #[.val (.long q1), .second, .val (.ref b1), .val (.int (4 : Int32))] [(.long ((q1.toUInt64 >>> ((32 : Int32) &&& 0x3f).toInt64.toUInt64).toInt64)), (.int (4 : Int32)), (.ref b1)]))
  refine own_by (fun _ k => XS.l2i X10.here hx rfl (hb hby d1_21) rfl k) ?_
  show own_Go _ _ _ _ (T10.setTop (mkF m 22 #[.val (.long q1), .second, .val (.ref b1), .val (.int (4 : Int32))] [(.int (((q1.toUInt64 >>> ((32 : Int32) &&& 0x3f).toInt64.toUInt64).toInt64).toInt32)), (.int (4 : Int32)), (.ref b1)]))
  refine own_by (fun _ k => XS.i2b X10.here hx rfl (hb hby d1_22) rfl k) ?_
  show own_Go _ _ _ _ (T10.setTop (mkF m 23 #[.val (.long q1), .second, .val (.ref b1), .val (.int (4 : Int32))] [(.int ((((q1.toUInt64 >>> ((32 : Int32) &&& 0x3f).toInt64.toUInt64).toInt64).toInt32).toInt8.toInt32)), (.int (4 : Int32)), (.ref b1)]))
  refine own_bas X10 hx hZ e10 A10 4 (by decide) (by decide) (hb hby d1_23) ?_
  intro T12 h12 X12 e12 W12 A12
  have f13 := f11.wr W12 (Or.inr nw1)
  have N12 := Fr.snoc X12 N10 ge1
  have Z12 := own_size_wr W12 Z10
  show own_Go _ _ _ _ (T12.setTop (mkF m 24 #[.val (.long q1), .second, .val (.ref b1), .val (.int (4 : Int32))] []))
  refine own_by (fun _ k => XS.iinc X12.here hx rfl (hb hby d1_24) rfl (l' := #[.val (.long q1), .second, .val (.ref b1), .val (.int ((4 : Int32) + (1 : Int32)))]) rfl k) ?_
  show own_Go _ _ _ _ (T12.setTop (mkF m 27 #[.val (.long q1), .second, .val (.ref b1), .val (.int ((4 : Int32) + (1 : Int32)))] []))
  rw [(by decide : ((4 : Int32) + (1 : Int32)) = (5 : Int32))]
  show own_Go _ _ _ _ (T12.setTop (mkF m 27 #[.val (.long q1), .second, .val (.ref b1), .val (.int (5 : Int32))] []))
  refine own_by (fun _ k => XS.goto X12.here hx rfl (pc0 := 27) (pc' := 7) rfl (hb hby d1_27) (by decide) (by decide) k) ?_
  show own_Go _ _ _ _ (T12.setTop (mkF m 7 #[.val (.long q1), .second, .val (.ref b1), .val (.int (5 : Int32))] []))
  refine own_by (fun _ k => XS.iloadN X12.here hx rfl (hb hby d1_7) rfl k) ?_
  show own_Go _ _ _ _ (T12.setTop (mkF m 8 #[.val (.long q1), .second, .val (.ref b1), .val (.int (5 : Int32))] [(.int (5 : Int32))]))
  refine own_by (fun _ k => XS.bipush X12.here hx rfl (hb hby d1_8) k) ?_
  show own_Go _ _ _ _ (T12.setTop (mkF m 10 #[.val (.long q1), .second, .val (.ref b1), .val (.int (5 : Int32))] [(.int (8 : Int32)), (.int (5 : Int32))]))
  refine own_by (fun _ k => XS.icmpNo X12.here hx rfl (hb hby d1_10) rfl (tlt (by decide)).2.1 k) ?_
  show own_Go _ _ _ _ (T12.setTop (mkF m 13 #[.val (.long q1), .second, .val (.ref b1), .val (.int (5 : Int32))] []))
  refine own_by (fun _ k => XS.aloadN X12.here hx rfl (hb hby d1_13) rfl rfl k) ?_
  show own_Go _ _ _ _ (T12.setTop (mkF m 14 #[.val (.long q1), .second, .val (.ref b1), .val (.int (5 : Int32))] [(.ref b1)]))
  refine own_by (fun _ k => XS.iloadN X12.here hx rfl (hb hby d1_14) rfl k) ?_
  show own_Go _ _ _ _ (T12.setTop (mkF m 15 #[.val (.long q1), .second, .val (.ref b1), .val (.int (5 : Int32))] [(.int (5 : Int32)), (.ref b1)]))
  refine own_by (fun _ k => XS.lloadN X12.here hx rfl (hb hby d1_15) rfl k) ?_
  show own_Go _ _ _ _ (T12.setTop (mkF m 16 #[.val (.long q1), .second, .val (.ref b1), .val (.int (5 : Int32))] [(.long q1), (.int (5 : Int32)), (.ref b1)]))
  refine own_by (fun _ k => XS.bipush X12.here hx rfl (hb hby d1_16) k) ?_
  show own_Go _ _ _ _ (T12.setTop (mkF m 18 #[.val (.long q1), .second, .val (.ref b1), .val (.int (5 : Int32))] [(.int (8 : Int32)), (.long q1), (.int (5 : Int32)), (.ref b1)]))
  refine own_by (fun _ k => XS.iloadN X12.here hx rfl (hb hby d1_18) rfl k) ?_
  show own_Go _ _ _ _ (T12.setTop (mkF m 19 #[.val (.long q1), .second, .val (.ref b1), .val (.int (5 : Int32))] [(.int (5 : Int32)), (.int (8 : Int32)), (.long q1), (.int (5 : Int32)), (.ref b1)]))
  refine own_by (fun _ k => XS.imul X12.here hx rfl (hb hby d1_19) rfl k) ?_
  show own_Go _ _ _ _ (T12.setTop (mkF m 20 #[.val (.long q1), .second, .val (.ref b1), .val (.int (5 : Int32))] [(.int ((8 : Int32) * (5 : Int32))), (.long q1), (.int (5 : Int32)), (.ref b1)]))
  rw [(by decide : ((8 : Int32) * (5 : Int32)) = (40 : Int32))]
  show own_Go _ _ _ _ (T12.setTop (mkF m 20 #[.val (.long q1), .second, .val (.ref b1), .val (.int (5 : Int32))] [(.int (40 : Int32)), (.long q1), (.int (5 : Int32)), (.ref b1)]))
  refine own_by (fun _ k => XS.lushr X12.here hx rfl (hb hby d1_20) rfl k) ?_
  show own_Go _ _ _ _ (T12.setTop (mkF m 21 #[.val (.long q1), .second, .val (.ref b1), .val (.int (5 : Int32))] [(.long ((q1.toUInt64 >>> ((40 : Int32) &&& 0x3f).toInt64.toUInt64).toInt64)), (.int (5 : Int32)), (.ref b1)]))
  refine own_by (fun _ k => XS.l2i X12.here hx rfl (hb hby d1_21) rfl k) ?_
  show own_Go _ _ _ _ (T12.setTop (mkF m 22 #[.val (.long q1), .second, .val (.ref b1), .val (.int (5 : Int32))] [(.int (((q1.toUInt64 >>> ((40 : Int32) &&& 0x3f).toInt64.toUInt64).toInt64).toInt32)), (.int (5 : Int32)), (.ref b1)]))
  refine own_by (fun _ k => XS.i2b X12.here hx rfl (hb hby d1_22) rfl k) ?_
  show own_Go _ _ _ _ (T12.setTop (mkF m 23 #[.val (.long q1), .second, .val (.ref b1), .val (.int (5 : Int32))] [(.int ((((q1.toUInt64 >>> ((40 : Int32) &&& 0x3f).toInt64.toUInt64).toInt64).toInt32).toInt8.toInt32)), (.int (5 : Int32)), (.ref b1)]))
  refine own_bas X12 hx hZ e12 A12 5 (by decide) (by decide) (hb hby d1_23) ?_
  intro T14 h14 X14 e14 W14 A14
  have f15 := f13.wr W14 (Or.inr nw1)
  have N14 := Fr.snoc X14 N12 ge1
  have Z14 := own_size_wr W14 Z12
  show own_Go _ _ _ _ (T14.setTop (mkF m 24 #[.val (.long q1), .second, .val (.ref b1), .val (.int (5 : Int32))] []))
  refine own_by (fun _ k => XS.iinc X14.here hx rfl (hb hby d1_24) rfl (l' := #[.val (.long q1), .second, .val (.ref b1), .val (.int ((5 : Int32) + (1 : Int32)))]) rfl k) ?_
  show own_Go _ _ _ _ (T14.setTop (mkF m 27 #[.val (.long q1), .second, .val (.ref b1), .val (.int ((5 : Int32) + (1 : Int32)))] []))
  rw [(by decide : ((5 : Int32) + (1 : Int32)) = (6 : Int32))]
  show own_Go _ _ _ _ (T14.setTop (mkF m 27 #[.val (.long q1), .second, .val (.ref b1), .val (.int (6 : Int32))] []))
  refine own_by (fun _ k => XS.goto X14.here hx rfl (pc0 := 27) (pc' := 7) rfl (hb hby d1_27) (by decide) (by decide) k) ?_
  show own_Go _ _ _ _ (T14.setTop (mkF m 7 #[.val (.long q1), .second, .val (.ref b1), .val (.int (6 : Int32))] []))
  refine own_by (fun _ k => XS.iloadN X14.here hx rfl (hb hby d1_7) rfl k) ?_
  show own_Go _ _ _ _ (T14.setTop (mkF m 8 #[.val (.long q1), .second, .val (.ref b1), .val (.int (6 : Int32))] [(.int (6 : Int32))]))
  refine own_by (fun _ k => XS.bipush X14.here hx rfl (hb hby d1_8) k) ?_
  show own_Go _ _ _ _ (T14.setTop (mkF m 10 #[.val (.long q1), .second, .val (.ref b1), .val (.int (6 : Int32))] [(.int (8 : Int32)), (.int (6 : Int32))]))
  refine own_by (fun _ k => XS.icmpNo X14.here hx rfl (hb hby d1_10) rfl (tlt (by decide)).2.1 k) ?_
  show own_Go _ _ _ _ (T14.setTop (mkF m 13 #[.val (.long q1), .second, .val (.ref b1), .val (.int (6 : Int32))] []))
  refine own_by (fun _ k => XS.aloadN X14.here hx rfl (hb hby d1_13) rfl rfl k) ?_
  show own_Go _ _ _ _ (T14.setTop (mkF m 14 #[.val (.long q1), .second, .val (.ref b1), .val (.int (6 : Int32))] [(.ref b1)]))
  refine own_by (fun _ k => XS.iloadN X14.here hx rfl (hb hby d1_14) rfl k) ?_
  show own_Go _ _ _ _ (T14.setTop (mkF m 15 #[.val (.long q1), .second, .val (.ref b1), .val (.int (6 : Int32))] [(.int (6 : Int32)), (.ref b1)]))
  refine own_by (fun _ k => XS.lloadN X14.here hx rfl (hb hby d1_15) rfl k) ?_
  show own_Go _ _ _ _ (T14.setTop (mkF m 16 #[.val (.long q1), .second, .val (.ref b1), .val (.int (6 : Int32))] [(.long q1), (.int (6 : Int32)), (.ref b1)]))
  refine own_by (fun _ k => XS.bipush X14.here hx rfl (hb hby d1_16) k) ?_
  show own_Go _ _ _ _ (T14.setTop (mkF m 18 #[.val (.long q1), .second, .val (.ref b1), .val (.int (6 : Int32))] [(.int (8 : Int32)), (.long q1), (.int (6 : Int32)), (.ref b1)]))
  refine own_by (fun _ k => XS.iloadN X14.here hx rfl (hb hby d1_18) rfl k) ?_
  show own_Go _ _ _ _ (T14.setTop (mkF m 19 #[.val (.long q1), .second, .val (.ref b1), .val (.int (6 : Int32))] [(.int (6 : Int32)), (.int (8 : Int32)), (.long q1), (.int (6 : Int32)), (.ref b1)]))
  refine own_by (fun _ k => XS.imul X14.here hx rfl (hb hby d1_19) rfl k) ?_
  show own_Go _ _ _ _ (T14.setTop (mkF m 20 #[.val (.long q1), .second, .val (.ref b1), .val (.int (6 : Int32))] [(.int ((8 : Int32) * (6 : Int32))), (.long q1), (.int (6 : Int32)), (.ref b1)]))
  rw [(by decide : ((8 : Int32) * (6 : Int32)) = (48 : Int32))]
  show own_Go _ _ _ _ (T14.setTop (mkF m 20 #[.val (.long q1), .second, .val (.ref b1), .val (.int (6 : Int32))] [(.int (48 : Int32)), (.long q1), (.int (6 : Int32)), (.ref b1)]))
  refine own_by (fun _ k => XS.lushr X14.here hx rfl (hb hby d1_20) rfl k) ?_
  show own_Go _ _ _ _ (T14.setTop (mkF m 21 #[.val (.long q1), .second, .val (.ref b1), .val (.int (6 : Int32))] [(.long ((q1.toUInt64 >>> ((48 : Int32) &&& 0x3f).toInt64.toUInt64).toInt64)), (.int (6 : Int32)), (.ref b1)]))
  refine own_by (fun _ k => XS.l2i X14.here hx rfl (hb hby d1_21) rfl k) ?_
  show own_Go _ _ _ _ (T14.setTop (mkF m 22 #[.val (.long q1), .second, .val (.ref b1), .val (.int (6 : Int32))] [(.int (((q1.toUInt64 >>> ((48 : Int32) &&& 0x3f).toInt64.toUInt64).toInt64).toInt32)), (.int (6 : Int32)), (.ref b1)]))
  refine own_by (fun _ k => XS.i2b X14.here hx rfl (hb hby d1_22) rfl k) ?_
  show own_Go _ _ _ _ (T14.setTop (mkF m 23 #[.val (.long q1), .second, .val (.ref b1), .val (.int (6 : Int32))] [(.int ((((q1.toUInt64 >>> ((48 : Int32) &&& 0x3f).toInt64.toUInt64).toInt64).toInt32).toInt8.toInt32)), (.int (6 : Int32)), (.ref b1)]))
  refine own_bas X14 hx hZ e14 A14 6 (by decide) (by decide) (hb hby d1_23) ?_
  intro T16 h16 X16 e16 W16 A16
  have f17 := f15.wr W16 (Or.inr nw1)
  have N16 := Fr.snoc X16 N14 ge1
  have Z16 := own_size_wr W16 Z14
  show own_Go _ _ _ _ (T16.setTop (mkF m 24 #[.val (.long q1), .second, .val (.ref b1), .val (.int (6 : Int32))] []))
  refine own_by (fun _ k => XS.iinc X16.here hx rfl (hb hby d1_24) rfl (l' := #[.val (.long q1), .second, .val (.ref b1), .val (.int ((6 : Int32) + (1 : Int32)))]) rfl k) ?_
  show own_Go _ _ _ _ (T16.setTop (mkF m 27 #[.val (.long q1), .second, .val (.ref b1), .val (.int ((6 : Int32) + (1 : Int32)))] []))
  rw [(by decide : ((6 : Int32) + (1 : Int32)) = (7 : Int32))]
  show own_Go _ _ _ _ (T16.setTop (mkF m 27 #[.val (.long q1), .second, .val (.ref b1), .val (.int (7 : Int32))] []))
  refine own_by (fun _ k => XS.goto X16.here hx rfl (pc0 := 27) (pc' := 7) rfl (hb hby d1_27) (by decide) (by decide) k) ?_
  show own_Go _ _ _ _ (T16.setTop (mkF m 7 #[.val (.long q1), .second, .val (.ref b1), .val (.int (7 : Int32))] []))
  refine own_by (fun _ k => XS.iloadN X16.here hx rfl (hb hby d1_7) rfl k) ?_
  show own_Go _ _ _ _ (T16.setTop (mkF m 8 #[.val (.long q1), .second, .val (.ref b1), .val (.int (7 : Int32))] [(.int (7 : Int32))]))
  refine own_by (fun _ k => XS.bipush X16.here hx rfl (hb hby d1_8) k) ?_
  show own_Go _ _ _ _ (T16.setTop (mkF m 10 #[.val (.long q1), .second, .val (.ref b1), .val (.int (7 : Int32))] [(.int (8 : Int32)), (.int (7 : Int32))]))
  refine own_by (fun _ k => XS.icmpNo X16.here hx rfl (hb hby d1_10) rfl (tlt (by decide)).2.1 k) ?_
  show own_Go _ _ _ _ (T16.setTop (mkF m 13 #[.val (.long q1), .second, .val (.ref b1), .val (.int (7 : Int32))] []))
  refine own_by (fun _ k => XS.aloadN X16.here hx rfl (hb hby d1_13) rfl rfl k) ?_
  show own_Go _ _ _ _ (T16.setTop (mkF m 14 #[.val (.long q1), .second, .val (.ref b1), .val (.int (7 : Int32))] [(.ref b1)]))
  refine own_by (fun _ k => XS.iloadN X16.here hx rfl (hb hby d1_14) rfl k) ?_
  show own_Go _ _ _ _ (T16.setTop (mkF m 15 #[.val (.long q1), .second, .val (.ref b1), .val (.int (7 : Int32))] [(.int (7 : Int32)), (.ref b1)]))
  refine own_by (fun _ k => XS.lloadN X16.here hx rfl (hb hby d1_15) rfl k) ?_
  show own_Go _ _ _ _ (T16.setTop (mkF m 16 #[.val (.long q1), .second, .val (.ref b1), .val (.int (7 : Int32))] [(.long q1), (.int (7 : Int32)), (.ref b1)]))
  refine own_by (fun _ k => XS.bipush X16.here hx rfl (hb hby d1_16) k) ?_
  show own_Go _ _ _ _ (T16.setTop (mkF m 18 #[.val (.long q1), .second, .val (.ref b1), .val (.int (7 : Int32))] [(.int (8 : Int32)), (.long q1), (.int (7 : Int32)), (.ref b1)]))
  refine own_by (fun _ k => XS.iloadN X16.here hx rfl (hb hby d1_18) rfl k) ?_
  show own_Go _ _ _ _ (T16.setTop (mkF m 19 #[.val (.long q1), .second, .val (.ref b1), .val (.int (7 : Int32))] [(.int (7 : Int32)), (.int (8 : Int32)), (.long q1), (.int (7 : Int32)), (.ref b1)]))
  refine own_by (fun _ k => XS.imul X16.here hx rfl (hb hby d1_19) rfl k) ?_
  show own_Go _ _ _ _ (T16.setTop (mkF m 20 #[.val (.long q1), .second, .val (.ref b1), .val (.int (7 : Int32))] [(.int ((8 : Int32) * (7 : Int32))), (.long q1), (.int (7 : Int32)), (.ref b1)]))
  rw [(by decide : ((8 : Int32) * (7 : Int32)) = (56 : Int32))]
  show own_Go _ _ _ _ (T16.setTop (mkF m 20 #[.val (.long q1), .second, .val (.ref b1), .val (.int (7 : Int32))] [(.int (56 : Int32)), (.long q1), (.int (7 : Int32)), (.ref b1)]))
  refine own_by (fun _ k => XS.lushr X16.here hx rfl (hb hby d1_20) rfl k) ?_
  show own_Go _ _ _ _ (T16.setTop (mkF m 21 #[.val (.long q1), .second, .val (.ref b1), .val (.int (7 : Int32))] [(.long ((q1.toUInt64 >>> ((56 : Int32) &&& 0x3f).toInt64.toUInt64).toInt64)), (.int (7 : Int32)), (.ref b1)]))
  refine own_by (fun _ k => XS.l2i X16.here hx rfl (hb hby d1_21) rfl k) ?_
  show own_Go _ _ _ _ (T16.setTop (mkF m 22 #[.val (.long q1), .second, .val (.ref b1), .val (.int (7 : Int32))] [(.int (((q1.toUInt64 >>> ((56 : Int32) &&& 0x3f).toInt64.toUInt64).toInt64).toInt32)), (.int (7 : Int32)), (.ref b1)]))
  refine own_by (fun _ k => XS.i2b X16.here hx rfl (hb hby d1_22) rfl k) ?_
  show own_Go _ _ _ _ (T16.setTop (mkF m 23 #[.val (.long q1), .second, .val (.ref b1), .val (.int (7 : Int32))] [(.int ((((q1.toUInt64 >>> ((56 : Int32) &&& 0x3f).toInt64.toUInt64).toInt64).toInt32).toInt8.toInt32)), (.int (7 : Int32)), (.ref b1)]))
  refine own_bas X16 hx hZ e16 A16 7 (by decide) (by decide) (hb hby d1_23) ?_
  intro T18 h18 X18 e18 W18 A18
  have f19 := f17.wr W18 (Or.inr nw1)
  have N18 := Fr.snoc X18 N16 ge1
  have Z18 := own_size_wr W18 Z16
  show own_Go _ _ _ _ (T18.setTop (mkF m 24 #[.val (.long q1), .second, .val (.ref b1), .val (.int (7 : Int32))] []))
  refine own_by (fun _ k => XS.iinc X18.here hx rfl (hb hby d1_24) rfl (l' := #[.val (.long q1), .second, .val (.ref b1), .val (.int ((7 : Int32) + (1 : Int32)))]) rfl k) ?_
  show own_Go _ _ _ _ (T18.setTop (mkF m 27 #[.val (.long q1), .second, .val (.ref b1), .val (.int ((7 : Int32) + (1 : Int32)))] []))
  rw [(by decide : ((7 : Int32) + (1 : Int32)) = (8 : Int32))]
  show own_Go _ _ _ _ (T18.setTop (mkF m 27 #[.val (.long q1), .second, .val (.ref b1), .val (.int (8 : Int32))] []))
  refine own_by (fun _ k => XS.goto X18.here hx rfl (pc0 := 27) (pc' := 7) rfl (hb hby d1_27) (by decide) (by decide) k) ?_
  show own_Go _ _ _ _ (T18.setTop (mkF m 7 #[.val (.long q1), .second, .val (.ref b1), .val (.int (8 : Int32))] []))
  refine own_by (fun _ k => XS.iloadN X18.here hx rfl (hb hby d1_7) rfl k) ?_
  show own_Go _ _ _ _ (T18.setTop (mkF m 8 #[.val (.long q1), .second, .val (.ref b1), .val (.int (8 : Int32))] [(.int (8 : Int32))]))
  refine own_by (fun _ k => XS.bipush X18.here hx rfl (hb hby d1_8) k) ?_
  show own_Go _ _ _ _ (T18.setTop (mkF m 10 #[.val (.long q1), .second, .val (.ref b1), .val (.int (8 : Int32))] [(.int (8 : Int32)), (.int (8 : Int32))]))
  refine own_by (fun _ k => XS.icmpYes X18.here hx rfl (pc0 := 10) (pc' := 30) rfl (hb hby d1_10) rfl (flt (by decide)).2.1 (by decide) (by decide) k) ?_
  show own_Go _ _ _ _ (T18.setTop (mkF m 30 #[.val (.long q1), .second, .val (.ref b1), .val (.int (8 : Int32))] []))
  refine own_by (fun _ k => XS.aloadN X18.here hx rfl (hb hby d1_30) rfl rfl k) ?_
  show own_Go _ _ _ _ (T18.setTop (mkF m 31 #[.val (.long q1), .second, .val (.ref b1), .val (.int (8 : Int32))] [(.ref b1)]))
  exact own_retA X18 hx Bd.notSynchronized e18 Bd.returns rfl rfl rfl (hb hby d1_31) (⟨by rw [g1], N18, f19, by rw [← g1]; exact A18⟩) (by decide) (by decide)
set_option maxRecDepth 65536 in
set_option maxHeartbeats 40000000 in
theorem rm0 (l : Launch) (Z : State) (a0 : Array Value) (hw : ∀ d ∈ tables_1, d.before a0 Z = true) (ws : List Jvm.Cond) (q1 : Int64)  (h0 : Heap) (n0 : Nat) (Z0 : n0 ≤ h0.size) :
    MetFree l x (head1 (Jvm.Cond.code x code maxLocals ret :: ws) room_1) (fun a U => a = #[(.long q1)] ∧ Z.Warmed39 U.vm ∧ U.heap = h0) (fun _ _ _ _ _ => True) (fun _ U o U' => ∃ v L, o = .returned v ∧ own_ap (fun v h L => v = some (.int 1) ∧ Fr n0 L) v U'.heap L ∧ FrameEnd U o U' L 16 128) := by
  refine MetFree.of_bodySF (plainFor_of_name pn_0) hisR ?_
  intro p e s m args below meth c s₁ Bd hml0 hP hK
  obtain ⟨rfl, hZ, hh⟩ := hP
  have hx := Bd.exec
  have hby := Bd.bytes
  have hml : c.maxLocals = 5 := hml0
  have hown : s.vm.findClass "com/example/harvester_ant/harvesterant/storage/CountersBytesPinLaw" = some m.cls := findClass_of_methodNamed Bd.named
  have hnm := (name_of_methodNamed Bd.named Bd.method).1
  have X0 : Stand p l e room_1 s m #[(.long q1)] below meth c s₁ [] 0 0 := Stand.of_body Bd
  have e0 : s₁.heap = h0 := by rw [← hh, Bd.state]; rfl
  have N0 := Fr.nil n0
  show own_Go p.tables e below (own_Q s (fun v h L => v = some (.int 1) ∧ Fr n0 L) 16 128) (s₁.setTop (entryFrame m #[(.long q1)] maxLocals))
  rw [show entryFrame m #[(.long q1)] maxLocals = mkF m 0 #[.val (.long q1), .second, .unset, .unset, .unset] [] from by first | (simp [entryFrame, mkF, argsToLocals, Value.category, maxLocals]; done) | rfl]
  show own_Go _ _ _ _ (s₁.setTop (mkF m 0 #[.val (.long q1), .second, .unset, .unset, .unset] []))
  refine own_by (fun _ k => XS.lloadN X0.here hx rfl (hb hby at_0) rfl k) ?_
  show own_Go _ _ _ _ (s₁.setTop (mkF m 1 #[.val (.long q1), .second, .unset, .unset, .unset] [(.long q1)]))
  obtain ⟨_, _, ⟨T1, L1, k1, n1⟩, -, X1, ⟨Lc1, hQ1, l1, y1, z1⟩, st1⟩ := Jvm.LawKit.callS X0 hx (y := (⟨"com/example/harvester_ant/harvesterant/storage/Counters", "bytes", "(J)[B"⟩ : MethodName)) hown (mvT hZ (hw _ (List.mem_of_getElem? (i := 0) rfl))) (mvT hZ (hw _ (List.mem_of_getElem? (i := 1) rfl))) (mvT hZ (hw _ (List.mem_of_getElem? (i := 2) rfl))) (mvT hZ (hw _ (List.mem_of_getElem? (i := 3) rfl))) (by decide) (backOf (W := 0) (rm1 l Z a0 hw [] q1 h0 n0 Z0) hZ (hw _ (List.mem_of_getElem? (i := 3) rfl)) (hw _ (List.mem_of_getElem? (i := 2) rfl)) (by decide) (by decide)) (g := (mkF m 1 #[.val (.long q1), .second, .unset, .unset, .unset] [(.long q1)])) rfl (by rw [hml]; rfl) (argsL := [(.long q1)]) (rest := []) (lenOf own_pd0 rfl) rfl (by show 2 * 0 + _ ≤ _; exact Nat.le_of_eq rfl) (hb hby at_1) (fun _ _ => ⟨rfl, e0, Nat.le_of_ble_eq_true rfl, Nat.le_of_ble_eq_true rfl⟩)
  dsimp only [Pt.U, Pt.locs, Pt.cells, Pt.slots] at X1 l1 y1 z1 st1 hQ1
  subst l1 y1 z1
  obtain ⟨h1, e1⟩ : ∃ h, T1.heap = h := ⟨_, rfl⟩
  rw [e1] at hQ1
  obtain ⟨rfl, N1q, K1, A1⟩ := hQ1
  have N1 := Fr.app N0 N1q
  refine own_by st1 ?_
  have Z1 := Nat.le_trans Z0 K1.1
  show own_Go _ _ _ _ (T1.setTop (mkF m 4 #[.val (.long q1), .second, .unset, .unset, .unset] [(.ref h0.size)]))
  refine own_by (fun _ k => XS.astoreN X1.here hx rfl (hb hby at_4) rfl rfl (l' := #[.val (.long q1), .second, .val (.ref h0.size), .unset, .unset]) rfl k) ?_
  show own_Go _ _ _ _ (T1.setTop (mkF m 5 #[.val (.long q1), .second, .val (.ref h0.size), .unset, .unset] []))
  refine own_by (fun _ k => XS.aloadN X1.here hx rfl (hb hby at_5) rfl rfl k) ?_
  show own_Go _ _ _ _ (T1.setTop (mkF m 6 #[.val (.long q1), .second, .val (.ref h0.size), .unset, .unset] [(.ref h0.size)]))
  refine own_by (fun _ k => XS.ifnullNo X1.here hx rfl (hb hby at_6) rfl k) ?_
  show own_Go _ _ _ _ (T1.setTop (mkF m 9 #[.val (.long q1), .second, .val (.ref h0.size), .unset, .unset] []))
  refine own_by (fun _ k => XS.aloadN X1.here hx rfl (hb hby at_9) rfl rfl k) ?_
  show own_Go _ _ _ _ (T1.setTop (mkF m 10 #[.val (.long q1), .second, .val (.ref h0.size), .unset, .unset] [(.ref h0.size)]))
  refine own_by (fun _ k => own_len X1 hx hZ e1 A1 (8 : Int32) (by decide) (hb hby at_10) k) ?_
  show own_Go _ _ _ _ (T1.setTop (mkF m 11 #[.val (.long q1), .second, .val (.ref h0.size), .unset, .unset] [(.int (8 : Int32))]))
  refine own_by (fun _ k => XS.bipush X1.here hx rfl (hb hby at_11) k) ?_
  show own_Go _ _ _ _ (T1.setTop (mkF m 13 #[.val (.long q1), .second, .val (.ref h0.size), .unset, .unset] [(.int (8 : Int32)), (.int (8 : Int32))]))
  refine own_by (fun _ k => XS.icmpYes X1.here hx rfl (pc0 := 13) (pc' := 18) rfl (hb hby at_13) rfl (teq (by decide)).1 (by decide) (by decide) k) ?_
  show own_Go _ _ _ _ (T1.setTop (mkF m 18 #[.val (.long q1), .second, .val (.ref h0.size), .unset, .unset] []))
  refine own_by (fun _ k => XS.aloadN X1.here hx rfl (hb hby at_18) rfl rfl k) ?_
  show own_Go _ _ _ _ (T1.setTop (mkF m 19 #[.val (.long q1), .second, .val (.ref h0.size), .unset, .unset] [(.ref h0.size)]))
  refine own_by (fun _ k => XS.iconst X1.here hx rfl (hb hby at_19) k) ?_
  show own_Go _ _ _ _ (T1.setTop (mkF m 20 #[.val (.long q1), .second, .val (.ref h0.size), .unset, .unset] [(.int (0 : Int32)), (.ref h0.size)]))
  refine own_by (fun _ k => own_bal X1 hx hZ e1 A1 0 (by decide) (by decide) (hb hby at_20) k) ?_
  show own_Go _ _ _ _ (T1.setTop (mkF m 21 #[.val (.long q1), .second, .val (.ref h0.size), .unset, .unset] [(.int ((own_bf q1) 0))]))
  refine own_by (fun _ k => XS.i2l X1.here hx rfl (hb hby at_21) rfl k) ?_
  show own_Go _ _ _ _ (T1.setTop (mkF m 22 #[.val (.long q1), .second, .val (.ref h0.size), .unset, .unset] [(.long (((own_bf q1) 0).toInt64))]))
  refine own_by (fun _ k => X1.ldc2Long hx hown (mvT hZ (hw _ (List.mem_of_getElem? (i := 5) rfl))) (g := (mkF m 22 #[.val (.long q1), .second, .val (.ref h0.size), .unset, .unset] [(.long (((own_bf q1) 0).toInt64))])) rfl (hb hby at_22) _ k) ?_
  show own_Go _ _ _ _ (T1.setTop (mkF m 25 #[.val (.long q1), .second, .val (.ref h0.size), .unset, .unset] [(.long (255 : Int64)), (.long (((own_bf q1) 0).toInt64))]))
  refine own_by (fun _ k => XS.land X1.here hx rfl (hb hby at_25) rfl k) ?_
  show own_Go _ _ _ _ (T1.setTop (mkF m 26 #[.val (.long q1), .second, .val (.ref h0.size), .unset, .unset] [(.long ((((own_bf q1) 0).toInt64) &&& (255 : Int64)))]))
  refine own_by (fun _ k => XS.aloadN X1.here hx rfl (hb hby at_26) rfl rfl k) ?_
  show own_Go _ _ _ _ (T1.setTop (mkF m 27 #[.val (.long q1), .second, .val (.ref h0.size), .unset, .unset] [(.ref h0.size), (.long ((((own_bf q1) 0).toInt64) &&& (255 : Int64)))]))
  refine own_by (fun _ k => XS.iconst X1.here hx rfl (hb hby at_27) k) ?_
  show own_Go _ _ _ _ (T1.setTop (mkF m 28 #[.val (.long q1), .second, .val (.ref h0.size), .unset, .unset] [(.int (1 : Int32)), (.ref h0.size), (.long ((((own_bf q1) 0).toInt64) &&& (255 : Int64)))]))
  refine own_by (fun _ k => own_bal X1 hx hZ e1 A1 1 (by decide) (by decide) (hb hby at_28) k) ?_
  show own_Go _ _ _ _ (T1.setTop (mkF m 29 #[.val (.long q1), .second, .val (.ref h0.size), .unset, .unset] [(.int ((own_bf q1) 1)), (.long ((((own_bf q1) 0).toInt64) &&& (255 : Int64)))]))
  refine own_by (fun _ k => XS.i2l X1.here hx rfl (hb hby at_29) rfl k) ?_
  show own_Go _ _ _ _ (T1.setTop (mkF m 30 #[.val (.long q1), .second, .val (.ref h0.size), .unset, .unset] [(.long (((own_bf q1) 1).toInt64)), (.long ((((own_bf q1) 0).toInt64) &&& (255 : Int64)))]))
  refine own_by (fun _ k => X1.ldc2Long hx hown (mvT hZ (hw _ (List.mem_of_getElem? (i := 5) rfl))) (g := (mkF m 30 #[.val (.long q1), .second, .val (.ref h0.size), .unset, .unset] [(.long (((own_bf q1) 1).toInt64)), (.long ((((own_bf q1) 0).toInt64) &&& (255 : Int64)))])) rfl (hb hby at_30) _ k) ?_
  show own_Go _ _ _ _ (T1.setTop (mkF m 33 #[.val (.long q1), .second, .val (.ref h0.size), .unset, .unset] [(.long (255 : Int64)), (.long (((own_bf q1) 1).toInt64)), (.long ((((own_bf q1) 0).toInt64) &&& (255 : Int64)))]))
  refine own_by (fun _ k => XS.land X1.here hx rfl (hb hby at_33) rfl k) ?_
  show own_Go _ _ _ _ (T1.setTop (mkF m 34 #[.val (.long q1), .second, .val (.ref h0.size), .unset, .unset] [(.long ((((own_bf q1) 1).toInt64) &&& (255 : Int64))), (.long ((((own_bf q1) 0).toInt64) &&& (255 : Int64)))]))
  refine own_by (fun _ k => XS.bipush X1.here hx rfl (hb hby at_34) k) ?_
  show own_Go _ _ _ _ (T1.setTop (mkF m 36 #[.val (.long q1), .second, .val (.ref h0.size), .unset, .unset] [(.int (8 : Int32)), (.long ((((own_bf q1) 1).toInt64) &&& (255 : Int64))), (.long ((((own_bf q1) 0).toInt64) &&& (255 : Int64)))]))
  refine own_by (fun _ k => XS.lshl X1.here hx rfl (hb hby at_36) rfl k) ?_
  show own_Go _ _ _ _ (T1.setTop (mkF m 37 #[.val (.long q1), .second, .val (.ref h0.size), .unset, .unset] [(.long (((((own_bf q1) 1).toInt64) &&& (255 : Int64)) <<< ((8 : Int32) &&& 0x3f).toInt64)), (.long ((((own_bf q1) 0).toInt64) &&& (255 : Int64)))]))
  refine own_by (fun _ k => XS.lor X1.here hx rfl (hb hby at_37) rfl k) ?_
  show own_Go _ _ _ _ (T1.setTop (mkF m 38 #[.val (.long q1), .second, .val (.ref h0.size), .unset, .unset] [(.long (((((own_bf q1) 0).toInt64) &&& (255 : Int64)) ||| (((((own_bf q1) 1).toInt64) &&& (255 : Int64)) <<< ((8 : Int32) &&& 0x3f).toInt64)))]))
  refine own_by (fun _ k => XS.aloadN X1.here hx rfl (hb hby at_38) rfl rfl k) ?_
  show own_Go _ _ _ _ (T1.setTop (mkF m 39 #[.val (.long q1), .second, .val (.ref h0.size), .unset, .unset] [(.ref h0.size), (.long (((((own_bf q1) 0).toInt64) &&& (255 : Int64)) ||| (((((own_bf q1) 1).toInt64) &&& (255 : Int64)) <<< ((8 : Int32) &&& 0x3f).toInt64)))]))
  refine own_by (fun _ k => XS.iconst X1.here hx rfl (hb hby at_39) k) ?_
  show own_Go _ _ _ _ (T1.setTop (mkF m 40 #[.val (.long q1), .second, .val (.ref h0.size), .unset, .unset] [(.int (2 : Int32)), (.ref h0.size), (.long (((((own_bf q1) 0).toInt64) &&& (255 : Int64)) ||| (((((own_bf q1) 1).toInt64) &&& (255 : Int64)) <<< ((8 : Int32) &&& 0x3f).toInt64)))]))
  refine own_by (fun _ k => own_bal X1 hx hZ e1 A1 2 (by decide) (by decide) (hb hby at_40) k) ?_
  show own_Go _ _ _ _ (T1.setTop (mkF m 41 #[.val (.long q1), .second, .val (.ref h0.size), .unset, .unset] [(.int ((own_bf q1) 2)), (.long (((((own_bf q1) 0).toInt64) &&& (255 : Int64)) ||| (((((own_bf q1) 1).toInt64) &&& (255 : Int64)) <<< ((8 : Int32) &&& 0x3f).toInt64)))]))
  refine own_by (fun _ k => XS.i2l X1.here hx rfl (hb hby at_41) rfl k) ?_
  show own_Go _ _ _ _ (T1.setTop (mkF m 42 #[.val (.long q1), .second, .val (.ref h0.size), .unset, .unset] [(.long (((own_bf q1) 2).toInt64)), (.long (((((own_bf q1) 0).toInt64) &&& (255 : Int64)) ||| (((((own_bf q1) 1).toInt64) &&& (255 : Int64)) <<< ((8 : Int32) &&& 0x3f).toInt64)))]))
  refine own_by (fun _ k => X1.ldc2Long hx hown (mvT hZ (hw _ (List.mem_of_getElem? (i := 5) rfl))) (g := (mkF m 42 #[.val (.long q1), .second, .val (.ref h0.size), .unset, .unset] [(.long (((own_bf q1) 2).toInt64)), (.long (((((own_bf q1) 0).toInt64) &&& (255 : Int64)) ||| (((((own_bf q1) 1).toInt64) &&& (255 : Int64)) <<< ((8 : Int32) &&& 0x3f).toInt64)))])) rfl (hb hby at_42) _ k) ?_
  show own_Go _ _ _ _ (T1.setTop (mkF m 45 #[.val (.long q1), .second, .val (.ref h0.size), .unset, .unset] [(.long (255 : Int64)), (.long (((own_bf q1) 2).toInt64)), (.long (((((own_bf q1) 0).toInt64) &&& (255 : Int64)) ||| (((((own_bf q1) 1).toInt64) &&& (255 : Int64)) <<< ((8 : Int32) &&& 0x3f).toInt64)))]))
  refine own_by (fun _ k => XS.land X1.here hx rfl (hb hby at_45) rfl k) ?_
  show own_Go _ _ _ _ (T1.setTop (mkF m 46 #[.val (.long q1), .second, .val (.ref h0.size), .unset, .unset] [(.long ((((own_bf q1) 2).toInt64) &&& (255 : Int64))), (.long (((((own_bf q1) 0).toInt64) &&& (255 : Int64)) ||| (((((own_bf q1) 1).toInt64) &&& (255 : Int64)) <<< ((8 : Int32) &&& 0x3f).toInt64)))]))
  refine own_by (fun _ k => XS.bipush X1.here hx rfl (hb hby at_46) k) ?_
  show own_Go _ _ _ _ (T1.setTop (mkF m 48 #[.val (.long q1), .second, .val (.ref h0.size), .unset, .unset] [(.int (16 : Int32)), (.long ((((own_bf q1) 2).toInt64) &&& (255 : Int64))), (.long (((((own_bf q1) 0).toInt64) &&& (255 : Int64)) ||| (((((own_bf q1) 1).toInt64) &&& (255 : Int64)) <<< ((8 : Int32) &&& 0x3f).toInt64)))]))
  refine own_by (fun _ k => XS.lshl X1.here hx rfl (hb hby at_48) rfl k) ?_
  show own_Go _ _ _ _ (T1.setTop (mkF m 49 #[.val (.long q1), .second, .val (.ref h0.size), .unset, .unset] [(.long (((((own_bf q1) 2).toInt64) &&& (255 : Int64)) <<< ((16 : Int32) &&& 0x3f).toInt64)), (.long (((((own_bf q1) 0).toInt64) &&& (255 : Int64)) ||| (((((own_bf q1) 1).toInt64) &&& (255 : Int64)) <<< ((8 : Int32) &&& 0x3f).toInt64)))]))
  refine own_by (fun _ k => XS.lor X1.here hx rfl (hb hby at_49) rfl k) ?_
  show own_Go _ _ _ _ (T1.setTop (mkF m 50 #[.val (.long q1), .second, .val (.ref h0.size), .unset, .unset] [(.long ((((((own_bf q1) 0).toInt64) &&& (255 : Int64)) ||| (((((own_bf q1) 1).toInt64) &&& (255 : Int64)) <<< ((8 : Int32) &&& 0x3f).toInt64)) ||| (((((own_bf q1) 2).toInt64) &&& (255 : Int64)) <<< ((16 : Int32) &&& 0x3f).toInt64)))]))
  refine own_by (fun _ k => XS.aloadN X1.here hx rfl (hb hby at_50) rfl rfl k) ?_
  show own_Go _ _ _ _ (T1.setTop (mkF m 51 #[.val (.long q1), .second, .val (.ref h0.size), .unset, .unset] [(.ref h0.size), (.long ((((((own_bf q1) 0).toInt64) &&& (255 : Int64)) ||| (((((own_bf q1) 1).toInt64) &&& (255 : Int64)) <<< ((8 : Int32) &&& 0x3f).toInt64)) ||| (((((own_bf q1) 2).toInt64) &&& (255 : Int64)) <<< ((16 : Int32) &&& 0x3f).toInt64)))]))
  refine own_by (fun _ k => XS.iconst X1.here hx rfl (hb hby at_51) k) ?_
  show own_Go _ _ _ _ (T1.setTop (mkF m 52 #[.val (.long q1), .second, .val (.ref h0.size), .unset, .unset] [(.int (3 : Int32)), (.ref h0.size), (.long ((((((own_bf q1) 0).toInt64) &&& (255 : Int64)) ||| (((((own_bf q1) 1).toInt64) &&& (255 : Int64)) <<< ((8 : Int32) &&& 0x3f).toInt64)) ||| (((((own_bf q1) 2).toInt64) &&& (255 : Int64)) <<< ((16 : Int32) &&& 0x3f).toInt64)))]))
  refine own_by (fun _ k => own_bal X1 hx hZ e1 A1 3 (by decide) (by decide) (hb hby at_52) k) ?_
  show own_Go _ _ _ _ (T1.setTop (mkF m 53 #[.val (.long q1), .second, .val (.ref h0.size), .unset, .unset] [(.int ((own_bf q1) 3)), (.long ((((((own_bf q1) 0).toInt64) &&& (255 : Int64)) ||| (((((own_bf q1) 1).toInt64) &&& (255 : Int64)) <<< ((8 : Int32) &&& 0x3f).toInt64)) ||| (((((own_bf q1) 2).toInt64) &&& (255 : Int64)) <<< ((16 : Int32) &&& 0x3f).toInt64)))]))
  refine own_by (fun _ k => XS.i2l X1.here hx rfl (hb hby at_53) rfl k) ?_
  show own_Go _ _ _ _ (T1.setTop (mkF m 54 #[.val (.long q1), .second, .val (.ref h0.size), .unset, .unset] [(.long (((own_bf q1) 3).toInt64)), (.long ((((((own_bf q1) 0).toInt64) &&& (255 : Int64)) ||| (((((own_bf q1) 1).toInt64) &&& (255 : Int64)) <<< ((8 : Int32) &&& 0x3f).toInt64)) ||| (((((own_bf q1) 2).toInt64) &&& (255 : Int64)) <<< ((16 : Int32) &&& 0x3f).toInt64)))]))
  refine own_by (fun _ k => X1.ldc2Long hx hown (mvT hZ (hw _ (List.mem_of_getElem? (i := 5) rfl))) (g := (mkF m 54 #[.val (.long q1), .second, .val (.ref h0.size), .unset, .unset] [(.long (((own_bf q1) 3).toInt64)), (.long ((((((own_bf q1) 0).toInt64) &&& (255 : Int64)) ||| (((((own_bf q1) 1).toInt64) &&& (255 : Int64)) <<< ((8 : Int32) &&& 0x3f).toInt64)) ||| (((((own_bf q1) 2).toInt64) &&& (255 : Int64)) <<< ((16 : Int32) &&& 0x3f).toInt64)))])) rfl (hb hby at_54) _ k) ?_
  show own_Go _ _ _ _ (T1.setTop (mkF m 57 #[.val (.long q1), .second, .val (.ref h0.size), .unset, .unset] [(.long (255 : Int64)), (.long (((own_bf q1) 3).toInt64)), (.long ((((((own_bf q1) 0).toInt64) &&& (255 : Int64)) ||| (((((own_bf q1) 1).toInt64) &&& (255 : Int64)) <<< ((8 : Int32) &&& 0x3f).toInt64)) ||| (((((own_bf q1) 2).toInt64) &&& (255 : Int64)) <<< ((16 : Int32) &&& 0x3f).toInt64)))]))
  refine own_by (fun _ k => XS.land X1.here hx rfl (hb hby at_57) rfl k) ?_
  show own_Go _ _ _ _ (T1.setTop (mkF m 58 #[.val (.long q1), .second, .val (.ref h0.size), .unset, .unset] [(.long ((((own_bf q1) 3).toInt64) &&& (255 : Int64))), (.long ((((((own_bf q1) 0).toInt64) &&& (255 : Int64)) ||| (((((own_bf q1) 1).toInt64) &&& (255 : Int64)) <<< ((8 : Int32) &&& 0x3f).toInt64)) ||| (((((own_bf q1) 2).toInt64) &&& (255 : Int64)) <<< ((16 : Int32) &&& 0x3f).toInt64)))]))
  refine own_by (fun _ k => XS.bipush X1.here hx rfl (hb hby at_58) k) ?_
  show own_Go _ _ _ _ (T1.setTop (mkF m 60 #[.val (.long q1), .second, .val (.ref h0.size), .unset, .unset] [(.int (24 : Int32)), (.long ((((own_bf q1) 3).toInt64) &&& (255 : Int64))), (.long ((((((own_bf q1) 0).toInt64) &&& (255 : Int64)) ||| (((((own_bf q1) 1).toInt64) &&& (255 : Int64)) <<< ((8 : Int32) &&& 0x3f).toInt64)) ||| (((((own_bf q1) 2).toInt64) &&& (255 : Int64)) <<< ((16 : Int32) &&& 0x3f).toInt64)))]))
  refine own_by (fun _ k => XS.lshl X1.here hx rfl (hb hby at_60) rfl k) ?_
  show own_Go _ _ _ _ (T1.setTop (mkF m 61 #[.val (.long q1), .second, .val (.ref h0.size), .unset, .unset] [(.long (((((own_bf q1) 3).toInt64) &&& (255 : Int64)) <<< ((24 : Int32) &&& 0x3f).toInt64)), (.long ((((((own_bf q1) 0).toInt64) &&& (255 : Int64)) ||| (((((own_bf q1) 1).toInt64) &&& (255 : Int64)) <<< ((8 : Int32) &&& 0x3f).toInt64)) ||| (((((own_bf q1) 2).toInt64) &&& (255 : Int64)) <<< ((16 : Int32) &&& 0x3f).toInt64)))]))
  refine own_by (fun _ k => XS.lor X1.here hx rfl (hb hby at_61) rfl k) ?_
  show own_Go _ _ _ _ (T1.setTop (mkF m 62 #[.val (.long q1), .second, .val (.ref h0.size), .unset, .unset] [(.long (((((((own_bf q1) 0).toInt64) &&& (255 : Int64)) ||| (((((own_bf q1) 1).toInt64) &&& (255 : Int64)) <<< ((8 : Int32) &&& 0x3f).toInt64)) ||| (((((own_bf q1) 2).toInt64) &&& (255 : Int64)) <<< ((16 : Int32) &&& 0x3f).toInt64)) ||| (((((own_bf q1) 3).toInt64) &&& (255 : Int64)) <<< ((24 : Int32) &&& 0x3f).toInt64)))]))
  refine own_by (fun _ k => XS.aloadN X1.here hx rfl (hb hby at_62) rfl rfl k) ?_
  show own_Go _ _ _ _ (T1.setTop (mkF m 63 #[.val (.long q1), .second, .val (.ref h0.size), .unset, .unset] [(.ref h0.size), (.long (((((((own_bf q1) 0).toInt64) &&& (255 : Int64)) ||| (((((own_bf q1) 1).toInt64) &&& (255 : Int64)) <<< ((8 : Int32) &&& 0x3f).toInt64)) ||| (((((own_bf q1) 2).toInt64) &&& (255 : Int64)) <<< ((16 : Int32) &&& 0x3f).toInt64)) ||| (((((own_bf q1) 3).toInt64) &&& (255 : Int64)) <<< ((24 : Int32) &&& 0x3f).toInt64)))]))
  refine own_by (fun _ k => XS.iconst X1.here hx rfl (hb hby at_63) k) ?_
  show own_Go _ _ _ _ (T1.setTop (mkF m 64 #[.val (.long q1), .second, .val (.ref h0.size), .unset, .unset] [(.int (4 : Int32)), (.ref h0.size), (.long (((((((own_bf q1) 0).toInt64) &&& (255 : Int64)) ||| (((((own_bf q1) 1).toInt64) &&& (255 : Int64)) <<< ((8 : Int32) &&& 0x3f).toInt64)) ||| (((((own_bf q1) 2).toInt64) &&& (255 : Int64)) <<< ((16 : Int32) &&& 0x3f).toInt64)) ||| (((((own_bf q1) 3).toInt64) &&& (255 : Int64)) <<< ((24 : Int32) &&& 0x3f).toInt64)))]))
  refine own_by (fun _ k => own_bal X1 hx hZ e1 A1 4 (by decide) (by decide) (hb hby at_64) k) ?_
  show own_Go _ _ _ _ (T1.setTop (mkF m 65 #[.val (.long q1), .second, .val (.ref h0.size), .unset, .unset] [(.int ((own_bf q1) 4)), (.long (((((((own_bf q1) 0).toInt64) &&& (255 : Int64)) ||| (((((own_bf q1) 1).toInt64) &&& (255 : Int64)) <<< ((8 : Int32) &&& 0x3f).toInt64)) ||| (((((own_bf q1) 2).toInt64) &&& (255 : Int64)) <<< ((16 : Int32) &&& 0x3f).toInt64)) ||| (((((own_bf q1) 3).toInt64) &&& (255 : Int64)) <<< ((24 : Int32) &&& 0x3f).toInt64)))]))
  refine own_by (fun _ k => XS.i2l X1.here hx rfl (hb hby at_65) rfl k) ?_
  show own_Go _ _ _ _ (T1.setTop (mkF m 66 #[.val (.long q1), .second, .val (.ref h0.size), .unset, .unset] [(.long (((own_bf q1) 4).toInt64)), (.long (((((((own_bf q1) 0).toInt64) &&& (255 : Int64)) ||| (((((own_bf q1) 1).toInt64) &&& (255 : Int64)) <<< ((8 : Int32) &&& 0x3f).toInt64)) ||| (((((own_bf q1) 2).toInt64) &&& (255 : Int64)) <<< ((16 : Int32) &&& 0x3f).toInt64)) ||| (((((own_bf q1) 3).toInt64) &&& (255 : Int64)) <<< ((24 : Int32) &&& 0x3f).toInt64)))]))
  refine own_by (fun _ k => X1.ldc2Long hx hown (mvT hZ (hw _ (List.mem_of_getElem? (i := 5) rfl))) (g := (mkF m 66 #[.val (.long q1), .second, .val (.ref h0.size), .unset, .unset] [(.long (((own_bf q1) 4).toInt64)), (.long (((((((own_bf q1) 0).toInt64) &&& (255 : Int64)) ||| (((((own_bf q1) 1).toInt64) &&& (255 : Int64)) <<< ((8 : Int32) &&& 0x3f).toInt64)) ||| (((((own_bf q1) 2).toInt64) &&& (255 : Int64)) <<< ((16 : Int32) &&& 0x3f).toInt64)) ||| (((((own_bf q1) 3).toInt64) &&& (255 : Int64)) <<< ((24 : Int32) &&& 0x3f).toInt64)))])) rfl (hb hby at_66) _ k) ?_
  show own_Go _ _ _ _ (T1.setTop (mkF m 69 #[.val (.long q1), .second, .val (.ref h0.size), .unset, .unset] [(.long (255 : Int64)), (.long (((own_bf q1) 4).toInt64)), (.long (((((((own_bf q1) 0).toInt64) &&& (255 : Int64)) ||| (((((own_bf q1) 1).toInt64) &&& (255 : Int64)) <<< ((8 : Int32) &&& 0x3f).toInt64)) ||| (((((own_bf q1) 2).toInt64) &&& (255 : Int64)) <<< ((16 : Int32) &&& 0x3f).toInt64)) ||| (((((own_bf q1) 3).toInt64) &&& (255 : Int64)) <<< ((24 : Int32) &&& 0x3f).toInt64)))]))
  refine own_by (fun _ k => XS.land X1.here hx rfl (hb hby at_69) rfl k) ?_
  show own_Go _ _ _ _ (T1.setTop (mkF m 70 #[.val (.long q1), .second, .val (.ref h0.size), .unset, .unset] [(.long ((((own_bf q1) 4).toInt64) &&& (255 : Int64))), (.long (((((((own_bf q1) 0).toInt64) &&& (255 : Int64)) ||| (((((own_bf q1) 1).toInt64) &&& (255 : Int64)) <<< ((8 : Int32) &&& 0x3f).toInt64)) ||| (((((own_bf q1) 2).toInt64) &&& (255 : Int64)) <<< ((16 : Int32) &&& 0x3f).toInt64)) ||| (((((own_bf q1) 3).toInt64) &&& (255 : Int64)) <<< ((24 : Int32) &&& 0x3f).toInt64)))]))
  refine own_by (fun _ k => XS.bipush X1.here hx rfl (hb hby at_70) k) ?_
  show own_Go _ _ _ _ (T1.setTop (mkF m 72 #[.val (.long q1), .second, .val (.ref h0.size), .unset, .unset] [(.int (32 : Int32)), (.long ((((own_bf q1) 4).toInt64) &&& (255 : Int64))), (.long (((((((own_bf q1) 0).toInt64) &&& (255 : Int64)) ||| (((((own_bf q1) 1).toInt64) &&& (255 : Int64)) <<< ((8 : Int32) &&& 0x3f).toInt64)) ||| (((((own_bf q1) 2).toInt64) &&& (255 : Int64)) <<< ((16 : Int32) &&& 0x3f).toInt64)) ||| (((((own_bf q1) 3).toInt64) &&& (255 : Int64)) <<< ((24 : Int32) &&& 0x3f).toInt64)))]))
  refine own_by (fun _ k => XS.lshl X1.here hx rfl (hb hby at_72) rfl k) ?_
  show own_Go _ _ _ _ (T1.setTop (mkF m 73 #[.val (.long q1), .second, .val (.ref h0.size), .unset, .unset] [(.long (((((own_bf q1) 4).toInt64) &&& (255 : Int64)) <<< ((32 : Int32) &&& 0x3f).toInt64)), (.long (((((((own_bf q1) 0).toInt64) &&& (255 : Int64)) ||| (((((own_bf q1) 1).toInt64) &&& (255 : Int64)) <<< ((8 : Int32) &&& 0x3f).toInt64)) ||| (((((own_bf q1) 2).toInt64) &&& (255 : Int64)) <<< ((16 : Int32) &&& 0x3f).toInt64)) ||| (((((own_bf q1) 3).toInt64) &&& (255 : Int64)) <<< ((24 : Int32) &&& 0x3f).toInt64)))]))
  refine own_by (fun _ k => XS.lor X1.here hx rfl (hb hby at_73) rfl k) ?_
  show own_Go _ _ _ _ (T1.setTop (mkF m 74 #[.val (.long q1), .second, .val (.ref h0.size), .unset, .unset] [(.long ((((((((own_bf q1) 0).toInt64) &&& (255 : Int64)) ||| (((((own_bf q1) 1).toInt64) &&& (255 : Int64)) <<< ((8 : Int32) &&& 0x3f).toInt64)) ||| (((((own_bf q1) 2).toInt64) &&& (255 : Int64)) <<< ((16 : Int32) &&& 0x3f).toInt64)) ||| (((((own_bf q1) 3).toInt64) &&& (255 : Int64)) <<< ((24 : Int32) &&& 0x3f).toInt64)) ||| (((((own_bf q1) 4).toInt64) &&& (255 : Int64)) <<< ((32 : Int32) &&& 0x3f).toInt64)))]))
  refine own_by (fun _ k => XS.aloadN X1.here hx rfl (hb hby at_74) rfl rfl k) ?_
  show own_Go _ _ _ _ (T1.setTop (mkF m 75 #[.val (.long q1), .second, .val (.ref h0.size), .unset, .unset] [(.ref h0.size), (.long ((((((((own_bf q1) 0).toInt64) &&& (255 : Int64)) ||| (((((own_bf q1) 1).toInt64) &&& (255 : Int64)) <<< ((8 : Int32) &&& 0x3f).toInt64)) ||| (((((own_bf q1) 2).toInt64) &&& (255 : Int64)) <<< ((16 : Int32) &&& 0x3f).toInt64)) ||| (((((own_bf q1) 3).toInt64) &&& (255 : Int64)) <<< ((24 : Int32) &&& 0x3f).toInt64)) ||| (((((own_bf q1) 4).toInt64) &&& (255 : Int64)) <<< ((32 : Int32) &&& 0x3f).toInt64)))]))
  refine own_by (fun _ k => XS.iconst X1.here hx rfl (hb hby at_75) k) ?_
  show own_Go _ _ _ _ (T1.setTop (mkF m 76 #[.val (.long q1), .second, .val (.ref h0.size), .unset, .unset] [(.int (5 : Int32)), (.ref h0.size), (.long ((((((((own_bf q1) 0).toInt64) &&& (255 : Int64)) ||| (((((own_bf q1) 1).toInt64) &&& (255 : Int64)) <<< ((8 : Int32) &&& 0x3f).toInt64)) ||| (((((own_bf q1) 2).toInt64) &&& (255 : Int64)) <<< ((16 : Int32) &&& 0x3f).toInt64)) ||| (((((own_bf q1) 3).toInt64) &&& (255 : Int64)) <<< ((24 : Int32) &&& 0x3f).toInt64)) ||| (((((own_bf q1) 4).toInt64) &&& (255 : Int64)) <<< ((32 : Int32) &&& 0x3f).toInt64)))]))
  refine own_by (fun _ k => own_bal X1 hx hZ e1 A1 5 (by decide) (by decide) (hb hby at_76) k) ?_
  show own_Go _ _ _ _ (T1.setTop (mkF m 77 #[.val (.long q1), .second, .val (.ref h0.size), .unset, .unset] [(.int ((own_bf q1) 5)), (.long ((((((((own_bf q1) 0).toInt64) &&& (255 : Int64)) ||| (((((own_bf q1) 1).toInt64) &&& (255 : Int64)) <<< ((8 : Int32) &&& 0x3f).toInt64)) ||| (((((own_bf q1) 2).toInt64) &&& (255 : Int64)) <<< ((16 : Int32) &&& 0x3f).toInt64)) ||| (((((own_bf q1) 3).toInt64) &&& (255 : Int64)) <<< ((24 : Int32) &&& 0x3f).toInt64)) ||| (((((own_bf q1) 4).toInt64) &&& (255 : Int64)) <<< ((32 : Int32) &&& 0x3f).toInt64)))]))
  refine own_by (fun _ k => XS.i2l X1.here hx rfl (hb hby at_77) rfl k) ?_
  show own_Go _ _ _ _ (T1.setTop (mkF m 78 #[.val (.long q1), .second, .val (.ref h0.size), .unset, .unset] [(.long (((own_bf q1) 5).toInt64)), (.long ((((((((own_bf q1) 0).toInt64) &&& (255 : Int64)) ||| (((((own_bf q1) 1).toInt64) &&& (255 : Int64)) <<< ((8 : Int32) &&& 0x3f).toInt64)) ||| (((((own_bf q1) 2).toInt64) &&& (255 : Int64)) <<< ((16 : Int32) &&& 0x3f).toInt64)) ||| (((((own_bf q1) 3).toInt64) &&& (255 : Int64)) <<< ((24 : Int32) &&& 0x3f).toInt64)) ||| (((((own_bf q1) 4).toInt64) &&& (255 : Int64)) <<< ((32 : Int32) &&& 0x3f).toInt64)))]))
  refine own_by (fun _ k => X1.ldc2Long hx hown (mvT hZ (hw _ (List.mem_of_getElem? (i := 5) rfl))) (g := (mkF m 78 #[.val (.long q1), .second, .val (.ref h0.size), .unset, .unset] [(.long (((own_bf q1) 5).toInt64)), (.long ((((((((own_bf q1) 0).toInt64) &&& (255 : Int64)) ||| (((((own_bf q1) 1).toInt64) &&& (255 : Int64)) <<< ((8 : Int32) &&& 0x3f).toInt64)) ||| (((((own_bf q1) 2).toInt64) &&& (255 : Int64)) <<< ((16 : Int32) &&& 0x3f).toInt64)) ||| (((((own_bf q1) 3).toInt64) &&& (255 : Int64)) <<< ((24 : Int32) &&& 0x3f).toInt64)) ||| (((((own_bf q1) 4).toInt64) &&& (255 : Int64)) <<< ((32 : Int32) &&& 0x3f).toInt64)))])) rfl (hb hby at_78) _ k) ?_
  show own_Go _ _ _ _ (T1.setTop (mkF m 81 #[.val (.long q1), .second, .val (.ref h0.size), .unset, .unset] [(.long (255 : Int64)), (.long (((own_bf q1) 5).toInt64)), (.long ((((((((own_bf q1) 0).toInt64) &&& (255 : Int64)) ||| (((((own_bf q1) 1).toInt64) &&& (255 : Int64)) <<< ((8 : Int32) &&& 0x3f).toInt64)) ||| (((((own_bf q1) 2).toInt64) &&& (255 : Int64)) <<< ((16 : Int32) &&& 0x3f).toInt64)) ||| (((((own_bf q1) 3).toInt64) &&& (255 : Int64)) <<< ((24 : Int32) &&& 0x3f).toInt64)) ||| (((((own_bf q1) 4).toInt64) &&& (255 : Int64)) <<< ((32 : Int32) &&& 0x3f).toInt64)))]))
  refine own_by (fun _ k => XS.land X1.here hx rfl (hb hby at_81) rfl k) ?_
  show own_Go _ _ _ _ (T1.setTop (mkF m 82 #[.val (.long q1), .second, .val (.ref h0.size), .unset, .unset] [(.long ((((own_bf q1) 5).toInt64) &&& (255 : Int64))), (.long ((((((((own_bf q1) 0).toInt64) &&& (255 : Int64)) ||| (((((own_bf q1) 1).toInt64) &&& (255 : Int64)) <<< ((8 : Int32) &&& 0x3f).toInt64)) ||| (((((own_bf q1) 2).toInt64) &&& (255 : Int64)) <<< ((16 : Int32) &&& 0x3f).toInt64)) ||| (((((own_bf q1) 3).toInt64) &&& (255 : Int64)) <<< ((24 : Int32) &&& 0x3f).toInt64)) ||| (((((own_bf q1) 4).toInt64) &&& (255 : Int64)) <<< ((32 : Int32) &&& 0x3f).toInt64)))]))
  refine own_by (fun _ k => XS.bipush X1.here hx rfl (hb hby at_82) k) ?_
  show own_Go _ _ _ _ (T1.setTop (mkF m 84 #[.val (.long q1), .second, .val (.ref h0.size), .unset, .unset] [(.int (40 : Int32)), (.long ((((own_bf q1) 5).toInt64) &&& (255 : Int64))), (.long ((((((((own_bf q1) 0).toInt64) &&& (255 : Int64)) ||| (((((own_bf q1) 1).toInt64) &&& (255 : Int64)) <<< ((8 : Int32) &&& 0x3f).toInt64)) ||| (((((own_bf q1) 2).toInt64) &&& (255 : Int64)) <<< ((16 : Int32) &&& 0x3f).toInt64)) ||| (((((own_bf q1) 3).toInt64) &&& (255 : Int64)) <<< ((24 : Int32) &&& 0x3f).toInt64)) ||| (((((own_bf q1) 4).toInt64) &&& (255 : Int64)) <<< ((32 : Int32) &&& 0x3f).toInt64)))]))
  refine own_by (fun _ k => XS.lshl X1.here hx rfl (hb hby at_84) rfl k) ?_
  show own_Go _ _ _ _ (T1.setTop (mkF m 85 #[.val (.long q1), .second, .val (.ref h0.size), .unset, .unset] [(.long (((((own_bf q1) 5).toInt64) &&& (255 : Int64)) <<< ((40 : Int32) &&& 0x3f).toInt64)), (.long ((((((((own_bf q1) 0).toInt64) &&& (255 : Int64)) ||| (((((own_bf q1) 1).toInt64) &&& (255 : Int64)) <<< ((8 : Int32) &&& 0x3f).toInt64)) ||| (((((own_bf q1) 2).toInt64) &&& (255 : Int64)) <<< ((16 : Int32) &&& 0x3f).toInt64)) ||| (((((own_bf q1) 3).toInt64) &&& (255 : Int64)) <<< ((24 : Int32) &&& 0x3f).toInt64)) ||| (((((own_bf q1) 4).toInt64) &&& (255 : Int64)) <<< ((32 : Int32) &&& 0x3f).toInt64)))]))
  refine own_by (fun _ k => XS.lor X1.here hx rfl (hb hby at_85) rfl k) ?_
  show own_Go _ _ _ _ (T1.setTop (mkF m 86 #[.val (.long q1), .second, .val (.ref h0.size), .unset, .unset] [(.long (((((((((own_bf q1) 0).toInt64) &&& (255 : Int64)) ||| (((((own_bf q1) 1).toInt64) &&& (255 : Int64)) <<< ((8 : Int32) &&& 0x3f).toInt64)) ||| (((((own_bf q1) 2).toInt64) &&& (255 : Int64)) <<< ((16 : Int32) &&& 0x3f).toInt64)) ||| (((((own_bf q1) 3).toInt64) &&& (255 : Int64)) <<< ((24 : Int32) &&& 0x3f).toInt64)) ||| (((((own_bf q1) 4).toInt64) &&& (255 : Int64)) <<< ((32 : Int32) &&& 0x3f).toInt64)) ||| (((((own_bf q1) 5).toInt64) &&& (255 : Int64)) <<< ((40 : Int32) &&& 0x3f).toInt64)))]))
  refine own_by (fun _ k => XS.aloadN X1.here hx rfl (hb hby at_86) rfl rfl k) ?_
  show own_Go _ _ _ _ (T1.setTop (mkF m 87 #[.val (.long q1), .second, .val (.ref h0.size), .unset, .unset] [(.ref h0.size), (.long (((((((((own_bf q1) 0).toInt64) &&& (255 : Int64)) ||| (((((own_bf q1) 1).toInt64) &&& (255 : Int64)) <<< ((8 : Int32) &&& 0x3f).toInt64)) ||| (((((own_bf q1) 2).toInt64) &&& (255 : Int64)) <<< ((16 : Int32) &&& 0x3f).toInt64)) ||| (((((own_bf q1) 3).toInt64) &&& (255 : Int64)) <<< ((24 : Int32) &&& 0x3f).toInt64)) ||| (((((own_bf q1) 4).toInt64) &&& (255 : Int64)) <<< ((32 : Int32) &&& 0x3f).toInt64)) ||| (((((own_bf q1) 5).toInt64) &&& (255 : Int64)) <<< ((40 : Int32) &&& 0x3f).toInt64)))]))
  refine own_by (fun _ k => XS.bipush X1.here hx rfl (hb hby at_87) k) ?_
  show own_Go _ _ _ _ (T1.setTop (mkF m 89 #[.val (.long q1), .second, .val (.ref h0.size), .unset, .unset] [(.int (6 : Int32)), (.ref h0.size), (.long (((((((((own_bf q1) 0).toInt64) &&& (255 : Int64)) ||| (((((own_bf q1) 1).toInt64) &&& (255 : Int64)) <<< ((8 : Int32) &&& 0x3f).toInt64)) ||| (((((own_bf q1) 2).toInt64) &&& (255 : Int64)) <<< ((16 : Int32) &&& 0x3f).toInt64)) ||| (((((own_bf q1) 3).toInt64) &&& (255 : Int64)) <<< ((24 : Int32) &&& 0x3f).toInt64)) ||| (((((own_bf q1) 4).toInt64) &&& (255 : Int64)) <<< ((32 : Int32) &&& 0x3f).toInt64)) ||| (((((own_bf q1) 5).toInt64) &&& (255 : Int64)) <<< ((40 : Int32) &&& 0x3f).toInt64)))]))
  refine own_by (fun _ k => own_bal X1 hx hZ e1 A1 6 (by decide) (by decide) (hb hby at_89) k) ?_
  show own_Go _ _ _ _ (T1.setTop (mkF m 90 #[.val (.long q1), .second, .val (.ref h0.size), .unset, .unset] [(.int ((own_bf q1) 6)), (.long (((((((((own_bf q1) 0).toInt64) &&& (255 : Int64)) ||| (((((own_bf q1) 1).toInt64) &&& (255 : Int64)) <<< ((8 : Int32) &&& 0x3f).toInt64)) ||| (((((own_bf q1) 2).toInt64) &&& (255 : Int64)) <<< ((16 : Int32) &&& 0x3f).toInt64)) ||| (((((own_bf q1) 3).toInt64) &&& (255 : Int64)) <<< ((24 : Int32) &&& 0x3f).toInt64)) ||| (((((own_bf q1) 4).toInt64) &&& (255 : Int64)) <<< ((32 : Int32) &&& 0x3f).toInt64)) ||| (((((own_bf q1) 5).toInt64) &&& (255 : Int64)) <<< ((40 : Int32) &&& 0x3f).toInt64)))]))
  refine own_by (fun _ k => XS.i2l X1.here hx rfl (hb hby at_90) rfl k) ?_
  show own_Go _ _ _ _ (T1.setTop (mkF m 91 #[.val (.long q1), .second, .val (.ref h0.size), .unset, .unset] [(.long (((own_bf q1) 6).toInt64)), (.long (((((((((own_bf q1) 0).toInt64) &&& (255 : Int64)) ||| (((((own_bf q1) 1).toInt64) &&& (255 : Int64)) <<< ((8 : Int32) &&& 0x3f).toInt64)) ||| (((((own_bf q1) 2).toInt64) &&& (255 : Int64)) <<< ((16 : Int32) &&& 0x3f).toInt64)) ||| (((((own_bf q1) 3).toInt64) &&& (255 : Int64)) <<< ((24 : Int32) &&& 0x3f).toInt64)) ||| (((((own_bf q1) 4).toInt64) &&& (255 : Int64)) <<< ((32 : Int32) &&& 0x3f).toInt64)) ||| (((((own_bf q1) 5).toInt64) &&& (255 : Int64)) <<< ((40 : Int32) &&& 0x3f).toInt64)))]))
  refine own_by (fun _ k => X1.ldc2Long hx hown (mvT hZ (hw _ (List.mem_of_getElem? (i := 5) rfl))) (g := (mkF m 91 #[.val (.long q1), .second, .val (.ref h0.size), .unset, .unset] [(.long (((own_bf q1) 6).toInt64)), (.long (((((((((own_bf q1) 0).toInt64) &&& (255 : Int64)) ||| (((((own_bf q1) 1).toInt64) &&& (255 : Int64)) <<< ((8 : Int32) &&& 0x3f).toInt64)) ||| (((((own_bf q1) 2).toInt64) &&& (255 : Int64)) <<< ((16 : Int32) &&& 0x3f).toInt64)) ||| (((((own_bf q1) 3).toInt64) &&& (255 : Int64)) <<< ((24 : Int32) &&& 0x3f).toInt64)) ||| (((((own_bf q1) 4).toInt64) &&& (255 : Int64)) <<< ((32 : Int32) &&& 0x3f).toInt64)) ||| (((((own_bf q1) 5).toInt64) &&& (255 : Int64)) <<< ((40 : Int32) &&& 0x3f).toInt64)))])) rfl (hb hby at_91) _ k) ?_
  show own_Go _ _ _ _ (T1.setTop (mkF m 94 #[.val (.long q1), .second, .val (.ref h0.size), .unset, .unset] [(.long (255 : Int64)), (.long (((own_bf q1) 6).toInt64)), (.long (((((((((own_bf q1) 0).toInt64) &&& (255 : Int64)) ||| (((((own_bf q1) 1).toInt64) &&& (255 : Int64)) <<< ((8 : Int32) &&& 0x3f).toInt64)) ||| (((((own_bf q1) 2).toInt64) &&& (255 : Int64)) <<< ((16 : Int32) &&& 0x3f).toInt64)) ||| (((((own_bf q1) 3).toInt64) &&& (255 : Int64)) <<< ((24 : Int32) &&& 0x3f).toInt64)) ||| (((((own_bf q1) 4).toInt64) &&& (255 : Int64)) <<< ((32 : Int32) &&& 0x3f).toInt64)) ||| (((((own_bf q1) 5).toInt64) &&& (255 : Int64)) <<< ((40 : Int32) &&& 0x3f).toInt64)))]))
  refine own_by (fun _ k => XS.land X1.here hx rfl (hb hby at_94) rfl k) ?_
  show own_Go _ _ _ _ (T1.setTop (mkF m 95 #[.val (.long q1), .second, .val (.ref h0.size), .unset, .unset] [(.long ((((own_bf q1) 6).toInt64) &&& (255 : Int64))), (.long (((((((((own_bf q1) 0).toInt64) &&& (255 : Int64)) ||| (((((own_bf q1) 1).toInt64) &&& (255 : Int64)) <<< ((8 : Int32) &&& 0x3f).toInt64)) ||| (((((own_bf q1) 2).toInt64) &&& (255 : Int64)) <<< ((16 : Int32) &&& 0x3f).toInt64)) ||| (((((own_bf q1) 3).toInt64) &&& (255 : Int64)) <<< ((24 : Int32) &&& 0x3f).toInt64)) ||| (((((own_bf q1) 4).toInt64) &&& (255 : Int64)) <<< ((32 : Int32) &&& 0x3f).toInt64)) ||| (((((own_bf q1) 5).toInt64) &&& (255 : Int64)) <<< ((40 : Int32) &&& 0x3f).toInt64)))]))
  refine own_by (fun _ k => XS.bipush X1.here hx rfl (hb hby at_95) k) ?_
  show own_Go _ _ _ _ (T1.setTop (mkF m 97 #[.val (.long q1), .second, .val (.ref h0.size), .unset, .unset] [(.int (48 : Int32)), (.long ((((own_bf q1) 6).toInt64) &&& (255 : Int64))), (.long (((((((((own_bf q1) 0).toInt64) &&& (255 : Int64)) ||| (((((own_bf q1) 1).toInt64) &&& (255 : Int64)) <<< ((8 : Int32) &&& 0x3f).toInt64)) ||| (((((own_bf q1) 2).toInt64) &&& (255 : Int64)) <<< ((16 : Int32) &&& 0x3f).toInt64)) ||| (((((own_bf q1) 3).toInt64) &&& (255 : Int64)) <<< ((24 : Int32) &&& 0x3f).toInt64)) ||| (((((own_bf q1) 4).toInt64) &&& (255 : Int64)) <<< ((32 : Int32) &&& 0x3f).toInt64)) ||| (((((own_bf q1) 5).toInt64) &&& (255 : Int64)) <<< ((40 : Int32) &&& 0x3f).toInt64)))]))
  refine own_by (fun _ k => XS.lshl X1.here hx rfl (hb hby at_97) rfl k) ?_
  show own_Go _ _ _ _ (T1.setTop (mkF m 98 #[.val (.long q1), .second, .val (.ref h0.size), .unset, .unset] [(.long (((((own_bf q1) 6).toInt64) &&& (255 : Int64)) <<< ((48 : Int32) &&& 0x3f).toInt64)), (.long (((((((((own_bf q1) 0).toInt64) &&& (255 : Int64)) ||| (((((own_bf q1) 1).toInt64) &&& (255 : Int64)) <<< ((8 : Int32) &&& 0x3f).toInt64)) ||| (((((own_bf q1) 2).toInt64) &&& (255 : Int64)) <<< ((16 : Int32) &&& 0x3f).toInt64)) ||| (((((own_bf q1) 3).toInt64) &&& (255 : Int64)) <<< ((24 : Int32) &&& 0x3f).toInt64)) ||| (((((own_bf q1) 4).toInt64) &&& (255 : Int64)) <<< ((32 : Int32) &&& 0x3f).toInt64)) ||| (((((own_bf q1) 5).toInt64) &&& (255 : Int64)) <<< ((40 : Int32) &&& 0x3f).toInt64)))]))
  refine own_by (fun _ k => XS.lor X1.here hx rfl (hb hby at_98) rfl k) ?_
  show own_Go _ _ _ _ (T1.setTop (mkF m 99 #[.val (.long q1), .second, .val (.ref h0.size), .unset, .unset] [(.long ((((((((((own_bf q1) 0).toInt64) &&& (255 : Int64)) ||| (((((own_bf q1) 1).toInt64) &&& (255 : Int64)) <<< ((8 : Int32) &&& 0x3f).toInt64)) ||| (((((own_bf q1) 2).toInt64) &&& (255 : Int64)) <<< ((16 : Int32) &&& 0x3f).toInt64)) ||| (((((own_bf q1) 3).toInt64) &&& (255 : Int64)) <<< ((24 : Int32) &&& 0x3f).toInt64)) ||| (((((own_bf q1) 4).toInt64) &&& (255 : Int64)) <<< ((32 : Int32) &&& 0x3f).toInt64)) ||| (((((own_bf q1) 5).toInt64) &&& (255 : Int64)) <<< ((40 : Int32) &&& 0x3f).toInt64)) ||| (((((own_bf q1) 6).toInt64) &&& (255 : Int64)) <<< ((48 : Int32) &&& 0x3f).toInt64)))]))
  refine own_by (fun _ k => XS.aloadN X1.here hx rfl (hb hby at_99) rfl rfl k) ?_
  show own_Go _ _ _ _ (T1.setTop (mkF m 100 #[.val (.long q1), .second, .val (.ref h0.size), .unset, .unset] [(.ref h0.size), (.long ((((((((((own_bf q1) 0).toInt64) &&& (255 : Int64)) ||| (((((own_bf q1) 1).toInt64) &&& (255 : Int64)) <<< ((8 : Int32) &&& 0x3f).toInt64)) ||| (((((own_bf q1) 2).toInt64) &&& (255 : Int64)) <<< ((16 : Int32) &&& 0x3f).toInt64)) ||| (((((own_bf q1) 3).toInt64) &&& (255 : Int64)) <<< ((24 : Int32) &&& 0x3f).toInt64)) ||| (((((own_bf q1) 4).toInt64) &&& (255 : Int64)) <<< ((32 : Int32) &&& 0x3f).toInt64)) ||| (((((own_bf q1) 5).toInt64) &&& (255 : Int64)) <<< ((40 : Int32) &&& 0x3f).toInt64)) ||| (((((own_bf q1) 6).toInt64) &&& (255 : Int64)) <<< ((48 : Int32) &&& 0x3f).toInt64)))]))
  refine own_by (fun _ k => XS.bipush X1.here hx rfl (hb hby at_100) k) ?_
  show own_Go _ _ _ _ (T1.setTop (mkF m 102 #[.val (.long q1), .second, .val (.ref h0.size), .unset, .unset] [(.int (7 : Int32)), (.ref h0.size), (.long ((((((((((own_bf q1) 0).toInt64) &&& (255 : Int64)) ||| (((((own_bf q1) 1).toInt64) &&& (255 : Int64)) <<< ((8 : Int32) &&& 0x3f).toInt64)) ||| (((((own_bf q1) 2).toInt64) &&& (255 : Int64)) <<< ((16 : Int32) &&& 0x3f).toInt64)) ||| (((((own_bf q1) 3).toInt64) &&& (255 : Int64)) <<< ((24 : Int32) &&& 0x3f).toInt64)) ||| (((((own_bf q1) 4).toInt64) &&& (255 : Int64)) <<< ((32 : Int32) &&& 0x3f).toInt64)) ||| (((((own_bf q1) 5).toInt64) &&& (255 : Int64)) <<< ((40 : Int32) &&& 0x3f).toInt64)) ||| (((((own_bf q1) 6).toInt64) &&& (255 : Int64)) <<< ((48 : Int32) &&& 0x3f).toInt64)))]))
  refine own_by (fun _ k => own_bal X1 hx hZ e1 A1 7 (by decide) (by decide) (hb hby at_102) k) ?_
  show own_Go _ _ _ _ (T1.setTop (mkF m 103 #[.val (.long q1), .second, .val (.ref h0.size), .unset, .unset] [(.int ((own_bf q1) 7)), (.long ((((((((((own_bf q1) 0).toInt64) &&& (255 : Int64)) ||| (((((own_bf q1) 1).toInt64) &&& (255 : Int64)) <<< ((8 : Int32) &&& 0x3f).toInt64)) ||| (((((own_bf q1) 2).toInt64) &&& (255 : Int64)) <<< ((16 : Int32) &&& 0x3f).toInt64)) ||| (((((own_bf q1) 3).toInt64) &&& (255 : Int64)) <<< ((24 : Int32) &&& 0x3f).toInt64)) ||| (((((own_bf q1) 4).toInt64) &&& (255 : Int64)) <<< ((32 : Int32) &&& 0x3f).toInt64)) ||| (((((own_bf q1) 5).toInt64) &&& (255 : Int64)) <<< ((40 : Int32) &&& 0x3f).toInt64)) ||| (((((own_bf q1) 6).toInt64) &&& (255 : Int64)) <<< ((48 : Int32) &&& 0x3f).toInt64)))]))
  refine own_by (fun _ k => XS.i2l X1.here hx rfl (hb hby at_103) rfl k) ?_
  show own_Go _ _ _ _ (T1.setTop (mkF m 104 #[.val (.long q1), .second, .val (.ref h0.size), .unset, .unset] [(.long (((own_bf q1) 7).toInt64)), (.long ((((((((((own_bf q1) 0).toInt64) &&& (255 : Int64)) ||| (((((own_bf q1) 1).toInt64) &&& (255 : Int64)) <<< ((8 : Int32) &&& 0x3f).toInt64)) ||| (((((own_bf q1) 2).toInt64) &&& (255 : Int64)) <<< ((16 : Int32) &&& 0x3f).toInt64)) ||| (((((own_bf q1) 3).toInt64) &&& (255 : Int64)) <<< ((24 : Int32) &&& 0x3f).toInt64)) ||| (((((own_bf q1) 4).toInt64) &&& (255 : Int64)) <<< ((32 : Int32) &&& 0x3f).toInt64)) ||| (((((own_bf q1) 5).toInt64) &&& (255 : Int64)) <<< ((40 : Int32) &&& 0x3f).toInt64)) ||| (((((own_bf q1) 6).toInt64) &&& (255 : Int64)) <<< ((48 : Int32) &&& 0x3f).toInt64)))]))
  refine own_by (fun _ k => X1.ldc2Long hx hown (mvT hZ (hw _ (List.mem_of_getElem? (i := 5) rfl))) (g := (mkF m 104 #[.val (.long q1), .second, .val (.ref h0.size), .unset, .unset] [(.long (((own_bf q1) 7).toInt64)), (.long ((((((((((own_bf q1) 0).toInt64) &&& (255 : Int64)) ||| (((((own_bf q1) 1).toInt64) &&& (255 : Int64)) <<< ((8 : Int32) &&& 0x3f).toInt64)) ||| (((((own_bf q1) 2).toInt64) &&& (255 : Int64)) <<< ((16 : Int32) &&& 0x3f).toInt64)) ||| (((((own_bf q1) 3).toInt64) &&& (255 : Int64)) <<< ((24 : Int32) &&& 0x3f).toInt64)) ||| (((((own_bf q1) 4).toInt64) &&& (255 : Int64)) <<< ((32 : Int32) &&& 0x3f).toInt64)) ||| (((((own_bf q1) 5).toInt64) &&& (255 : Int64)) <<< ((40 : Int32) &&& 0x3f).toInt64)) ||| (((((own_bf q1) 6).toInt64) &&& (255 : Int64)) <<< ((48 : Int32) &&& 0x3f).toInt64)))])) rfl (hb hby at_104) _ k) ?_
  show own_Go _ _ _ _ (T1.setTop (mkF m 107 #[.val (.long q1), .second, .val (.ref h0.size), .unset, .unset] [(.long (255 : Int64)), (.long (((own_bf q1) 7).toInt64)), (.long ((((((((((own_bf q1) 0).toInt64) &&& (255 : Int64)) ||| (((((own_bf q1) 1).toInt64) &&& (255 : Int64)) <<< ((8 : Int32) &&& 0x3f).toInt64)) ||| (((((own_bf q1) 2).toInt64) &&& (255 : Int64)) <<< ((16 : Int32) &&& 0x3f).toInt64)) ||| (((((own_bf q1) 3).toInt64) &&& (255 : Int64)) <<< ((24 : Int32) &&& 0x3f).toInt64)) ||| (((((own_bf q1) 4).toInt64) &&& (255 : Int64)) <<< ((32 : Int32) &&& 0x3f).toInt64)) ||| (((((own_bf q1) 5).toInt64) &&& (255 : Int64)) <<< ((40 : Int32) &&& 0x3f).toInt64)) ||| (((((own_bf q1) 6).toInt64) &&& (255 : Int64)) <<< ((48 : Int32) &&& 0x3f).toInt64)))]))
  refine own_by (fun _ k => XS.land X1.here hx rfl (hb hby at_107) rfl k) ?_
  show own_Go _ _ _ _ (T1.setTop (mkF m 108 #[.val (.long q1), .second, .val (.ref h0.size), .unset, .unset] [(.long ((((own_bf q1) 7).toInt64) &&& (255 : Int64))), (.long ((((((((((own_bf q1) 0).toInt64) &&& (255 : Int64)) ||| (((((own_bf q1) 1).toInt64) &&& (255 : Int64)) <<< ((8 : Int32) &&& 0x3f).toInt64)) ||| (((((own_bf q1) 2).toInt64) &&& (255 : Int64)) <<< ((16 : Int32) &&& 0x3f).toInt64)) ||| (((((own_bf q1) 3).toInt64) &&& (255 : Int64)) <<< ((24 : Int32) &&& 0x3f).toInt64)) ||| (((((own_bf q1) 4).toInt64) &&& (255 : Int64)) <<< ((32 : Int32) &&& 0x3f).toInt64)) ||| (((((own_bf q1) 5).toInt64) &&& (255 : Int64)) <<< ((40 : Int32) &&& 0x3f).toInt64)) ||| (((((own_bf q1) 6).toInt64) &&& (255 : Int64)) <<< ((48 : Int32) &&& 0x3f).toInt64)))]))
  refine own_by (fun _ k => XS.bipush X1.here hx rfl (hb hby at_108) k) ?_
  show own_Go _ _ _ _ (T1.setTop (mkF m 110 #[.val (.long q1), .second, .val (.ref h0.size), .unset, .unset] [(.int (56 : Int32)), (.long ((((own_bf q1) 7).toInt64) &&& (255 : Int64))), (.long ((((((((((own_bf q1) 0).toInt64) &&& (255 : Int64)) ||| (((((own_bf q1) 1).toInt64) &&& (255 : Int64)) <<< ((8 : Int32) &&& 0x3f).toInt64)) ||| (((((own_bf q1) 2).toInt64) &&& (255 : Int64)) <<< ((16 : Int32) &&& 0x3f).toInt64)) ||| (((((own_bf q1) 3).toInt64) &&& (255 : Int64)) <<< ((24 : Int32) &&& 0x3f).toInt64)) ||| (((((own_bf q1) 4).toInt64) &&& (255 : Int64)) <<< ((32 : Int32) &&& 0x3f).toInt64)) ||| (((((own_bf q1) 5).toInt64) &&& (255 : Int64)) <<< ((40 : Int32) &&& 0x3f).toInt64)) ||| (((((own_bf q1) 6).toInt64) &&& (255 : Int64)) <<< ((48 : Int32) &&& 0x3f).toInt64)))]))
  refine own_by (fun _ k => XS.lshl X1.here hx rfl (hb hby at_110) rfl k) ?_
  show own_Go _ _ _ _ (T1.setTop (mkF m 111 #[.val (.long q1), .second, .val (.ref h0.size), .unset, .unset] [(.long (((((own_bf q1) 7).toInt64) &&& (255 : Int64)) <<< ((56 : Int32) &&& 0x3f).toInt64)), (.long ((((((((((own_bf q1) 0).toInt64) &&& (255 : Int64)) ||| (((((own_bf q1) 1).toInt64) &&& (255 : Int64)) <<< ((8 : Int32) &&& 0x3f).toInt64)) ||| (((((own_bf q1) 2).toInt64) &&& (255 : Int64)) <<< ((16 : Int32) &&& 0x3f).toInt64)) ||| (((((own_bf q1) 3).toInt64) &&& (255 : Int64)) <<< ((24 : Int32) &&& 0x3f).toInt64)) ||| (((((own_bf q1) 4).toInt64) &&& (255 : Int64)) <<< ((32 : Int32) &&& 0x3f).toInt64)) ||| (((((own_bf q1) 5).toInt64) &&& (255 : Int64)) <<< ((40 : Int32) &&& 0x3f).toInt64)) ||| (((((own_bf q1) 6).toInt64) &&& (255 : Int64)) <<< ((48 : Int32) &&& 0x3f).toInt64)))]))
  refine own_by (fun _ k => XS.lor X1.here hx rfl (hb hby at_111) rfl k) ?_
  show own_Go _ _ _ _ (T1.setTop (mkF m 112 #[.val (.long q1), .second, .val (.ref h0.size), .unset, .unset] [(.long (((((((((((own_bf q1) 0).toInt64) &&& (255 : Int64)) ||| (((((own_bf q1) 1).toInt64) &&& (255 : Int64)) <<< ((8 : Int32) &&& 0x3f).toInt64)) ||| (((((own_bf q1) 2).toInt64) &&& (255 : Int64)) <<< ((16 : Int32) &&& 0x3f).toInt64)) ||| (((((own_bf q1) 3).toInt64) &&& (255 : Int64)) <<< ((24 : Int32) &&& 0x3f).toInt64)) ||| (((((own_bf q1) 4).toInt64) &&& (255 : Int64)) <<< ((32 : Int32) &&& 0x3f).toInt64)) ||| (((((own_bf q1) 5).toInt64) &&& (255 : Int64)) <<< ((40 : Int32) &&& 0x3f).toInt64)) ||| (((((own_bf q1) 6).toInt64) &&& (255 : Int64)) <<< ((48 : Int32) &&& 0x3f).toInt64)) ||| (((((own_bf q1) 7).toInt64) &&& (255 : Int64)) <<< ((56 : Int32) &&& 0x3f).toInt64)))]))
  obtain ⟨v3_2, hv3_2⟩ : ∃ z_ : Int64, (((((((((((own_bf q1) 0).toInt64) &&& (255 : Int64)) ||| (((((own_bf q1) 1).toInt64) &&& (255 : Int64)) <<< ((8 : Int32) &&& 0x3f).toInt64)) ||| (((((own_bf q1) 2).toInt64) &&& (255 : Int64)) <<< ((16 : Int32) &&& 0x3f).toInt64)) ||| (((((own_bf q1) 3).toInt64) &&& (255 : Int64)) <<< ((24 : Int32) &&& 0x3f).toInt64)) ||| (((((own_bf q1) 4).toInt64) &&& (255 : Int64)) <<< ((32 : Int32) &&& 0x3f).toInt64)) ||| (((((own_bf q1) 5).toInt64) &&& (255 : Int64)) <<< ((40 : Int32) &&& 0x3f).toInt64)) ||| (((((own_bf q1) 6).toInt64) &&& (255 : Int64)) <<< ((48 : Int32) &&& 0x3f).toInt64)) ||| (((((own_bf q1) 7).toInt64) &&& (255 : Int64)) <<< ((56 : Int32) &&& 0x3f).toInt64)) = z_ := ⟨_, rfl⟩
  refine own_gen hv3_2 (fun z_ => T1.setTop (mkF m 112 #[.val (.long q1), .second, .val (.ref h0.size), .unset, .unset] [(.long z_)])) ?_
  refine own_by (fun _ k => XS.lstoreN X1.here hx rfl (hb hby at_112) rfl (l' := #[.val (.long q1), .second, .val (.ref h0.size), .val (.long v3_2), .second]) rfl k) ?_
  show own_Go _ _ _ _ (T1.setTop (mkF m 113 #[.val (.long q1), .second, .val (.ref h0.size), .val (.long v3_2), .second] []))
  refine own_by (fun _ k => XS.lloadN X1.here hx rfl (hb hby at_113) rfl k) ?_
  show own_Go _ _ _ _ (T1.setTop (mkF m 114 #[.val (.long q1), .second, .val (.ref h0.size), .val (.long v3_2), .second] [(.long v3_2)]))
  refine own_by (fun _ k => XS.lloadN X1.here hx rfl (hb hby at_114) rfl k) ?_
  show own_Go _ _ _ _ (T1.setTop (mkF m 115 #[.val (.long q1), .second, .val (.ref h0.size), .val (.long v3_2), .second] [(.long q1), (.long v3_2)]))
  refine own_by (fun _ k => XS.lcmp X1.here hx rfl (hb hby at_115) rfl k) ?_
  show own_Go _ _ _ _ (T1.setTop (mkF m 116 #[.val (.long q1), .second, .val (.ref h0.size), .val (.long v3_2), .second] [(.int (lcmpW v3_2 q1))]))
  refine own_by (fun _ k => XS.ifNo X1.here hx rfl (hb hby at_116) rfl ((if0 _ _).trans (teq ((lw_eq _ _).mpr (hv3_2.symm.trans (own_math q1 (own_bf q1) (by simp [own_bf, own_upd]) (by simp [own_bf, own_upd]) (by simp [own_bf, own_upd]) (by simp [own_bf, own_upd]) (by simp [own_bf, own_upd]) (by simp [own_bf, own_upd]) (by simp [own_bf, own_upd]) (by simp [own_bf, own_upd]))))).2) k) ?_
  show own_Go _ _ _ _ (T1.setTop (mkF m 119 #[.val (.long q1), .second, .val (.ref h0.size), .val (.long v3_2), .second] []))
  refine own_by (fun _ k => XS.iconst X1.here hx rfl (hb hby at_119) k) ?_
  show own_Go _ _ _ _ (T1.setTop (mkF m 120 #[.val (.long q1), .second, .val (.ref h0.size), .val (.long v3_2), .second] [(.int (1 : Int32))]))
  refine own_by (fun _ k => XS.goto X1.here hx rfl (pc0 := 120) (pc' := 124) rfl (hb hby at_120) (by decide) (by decide) k) ?_
  show own_Go _ _ _ _ (T1.setTop (mkF m 124 #[.val (.long q1), .second, .val (.ref h0.size), .val (.long v3_2), .second] [(.int (1 : Int32))]))
  exact own_retN X1 hx Bd.notSynchronized e1 Bd.returns (by simp) (hb hby at_124) (⟨rfl, N1⟩) (by decide) (by decide)
set_option maxRecDepth 65536 in
set_option maxHeartbeats 40000000 in
theorem comes_1 {Post : Tables → Env → Array Value → State → Outcome → State → Prop} (hpost : ∀ tb e args s v u, (limb_1_1.after args s (.returned v) u = true ∧ limb_1_2.after args s (.returned v) u = true ∧ True) → FrameEnd s (.returned v) u (Jvm.fieldLocs frame_1_writes args s ++ Jvm.arrayLocs frame_1_arrays args s ++ Jvm.staticLocs frame_1_statics s) 16 128 → Post tb e args s (.returned v) u) :
    ArmFor flags0 classFile x code maxLocals ret World_1 tables_1 room_1 Calls_1 rest_1 Pre_1 Post := by
  intro l hfl _ _ p e ha hc hk s m args below hf hA hF happ hP
  obtain ⟨hcalls, hrest, hpre⟩ := hP
  obtain ⟨-, -, -, hnamed, -, -, -, hat⟩ := (Spec.applies_iff hf).mp happ
  obtain ⟨hg, hn⟩ := and_e (Cond.before_iff.mp (show (Jvm.Cond.and given_1 narrow_1).before args s = true from hpre))
  obtain ⟨g1, g2⟩ := and_e hg
  obtain ⟨w0, rfl⟩ : ∃ w0 : Value, args = #[w0] := by
    have hs : args.size = 1 := by simpa [Cond.value, given_1] using g1
    obtain ⟨L⟩ := args
    match L, hs with
    | [w0], _ => exact ⟨w0, rfl⟩
  have hw := fun d (hd : d ∈ tables_1) => atoms_spec (ws := Jvm.Cond.code x code maxLocals ret :: tables_1) hat d (List.mem_cons_of_mem _ hd)
  have hfit : Fit s := fun {y c} hc i hi => by
    obtain ⟨ha, rfl⟩ := Array.getElem?_eq_some_iff.mp hc
    have q := List.all_eq_true.mp ((Array.all_eq_true_iff_forall_mem.mp hF) _ (Array.getElem_mem ha)) i (List.mem_range.mpr hi)
    simpa [Array.getElem?_eq_getElem hi] using q
  obtain ⟨i0, ei0⟩ := isL_v g2
  obtain rfl : w0 = (.long i0) := Option.some.inj ei0
  obtain ⟨n, o, h1, h2, h3, _, L, rfl, ⟨rfl, N⟩, hq⟩ := rm0 l s _ hw tables_1 i0 s.heap s.heap.size (Nat.le_refl _) p e ha hc hk s m _ below hf ((Spec.applies_iff_loose hf).mp happ).1 ⟨rfl, State.Warmed39.refl s, rfl⟩ trivial
  refine ⟨n, _, h1, h2, h3, hpost _ _ _ _ _ _ ⟨Cond.after_iff.mpr rfl, Cond.after_iff.mpr (eq_i res_at (Term.int_eval (1)) rfl), trivial⟩ ⟨hq.1, hq.2.1, (hq.2.2.sift fun y hy => Or.inr (N y hy)).mono (by decide) (by decide)⟩⟩
theorem main_1_1 : Claimed_1_1 := comes_1 fun _ _ _ _ _ _ h hF => ⟨h.1, hF⟩
theorem main_1_2 : Claimed_1_2 := comes_1 fun _ _ _ _ _ _ h hF => ⟨h.2.1, hF⟩
end Jvm.Pilot.@@N@@
namespace Jvm.Pilot.@@N@@
open Jvm Jvm.ClassFile Sem Op Lib Jvm.Free Jvm.Stand Jvm.Pilot.@@N@@.Jvm.D
/-! MADE BY PROGRAM (witnessworld.py) out of the Statement's table words and the real class files: 9 classes; the members and pool entries that the words name. The judged class is class 1, her method 1. -/
namespace start1
open Jvm.ClassFile
def u (s : String) : CpInfo := .utf8 (stringToUtf16 s)
/-- a pool by its gaps: so many unusable entries, then the entry; so many at the end -/
def gap : Nat → List CpInfo → List CpInfo
  | 0, r => r
  | n + 1, r => .unusable :: gap n r
def poolList (es : List (Nat × CpInfo)) (last : Nat) : List CpInfo := es.foldr (fun e r => gap e.1 (e.2 :: r)) (gap last [])
def pool (es : List (Nat × CpInfo)) (last : Nat) : Array CpInfo := ⟨poolList es last⟩
def fileOf (pool : Array CpInfo) (this : Nat) (attrs : Array Attribute := #[]) (ms : Array MethodInfo := #[]) (fl : Nat := 33) (sup : Nat := 0) (ifs : Array Nat := #[]) (fds : Array FieldInfo := #[]) : ClassFile where
  minorVersion := 0
  majorVersion := 65
  constantPool := pool
  accessFlags := fl
  thisClass := this
  superClass := sup
  interfaces := ifs
  fields := fds
  methods := ms
  attributes := attrs
def plain (name : String) (sup : Option ClassId) : Class where
  name := name
  kind := .ordinary
  loader := none
  accessFlags := 33
  super := sup
  interfaces := #[]
  cf := none
  fields := #[]
  methods := #[]
  instanceTypes := #[]
  staticTypes := #[]
  resolved := #[]
  callSites := []
  init := .initialized
  statics := none
  mirror := none

def pool0 : Array CpInfo := pool [(5, u "<init>"), (0, u "()V"), (1, .class_ 10), (1, u "java/lang/Object")] 113

def k0m0 : Method := { name := "<init>", desc := "()V", sig := { parameters := [], returnType := none }, accessFlags := 1, code := none }
/-- java/lang/Object -/
def k0 : Class := { plain "java/lang/Object" none with
  accessFlags := 33
  interfaces := #[]
  cf := some (fileOf pool0 8 #[] #[{ accessFlags := 1, nameIndex := 5, descriptorIndex := 6, attributes := #[] }] 33 0 #[] #[])
  fields := #[]
  methods := #[k0m0]
  instanceTypes := #[]
  staticTypes := #[]
  resolved := Array.replicate 124 none
  statics := none }

def pool1 : Array CpInfo := pool [(2, .class_ 4), (1, u "java/lang/Object"), (0, u "<init>"), (0, u "()V"), (0, .methodref 8 9), (0, .class_ 10), (0, .nameAndType 11 12), (0, u "com/example/harvester_ant/harvesterant/storage/Counters"), (0, u "bytes"), (0, u "(J)[B"), (0, .long 255), (1, .class_ 16), (0, u "com/example/harvester_ant/harvesterant/storage/CountersBytesPinLaw"), (2, u "law"), (0, u "(J)Z")] 5

def k1m0 : Method := { name := "<init>", desc := "()V", sig := { parameters := [], returnType := none }, accessFlags := 2, code := none }
def k1c1 : Code := { maxStack := 6, maxLocals := 5, code := code, exceptionTable := #[], attributes := #[] }
def k1m1 : Method := { name := "law", desc := "(J)Z", sig := { parameters := [.long], returnType := some .boolean }, accessFlags := 9, code := some k1c1 }
/-- com/example/harvester_ant/harvesterant/storage/CountersBytesPinLaw -/
def k1 : Class := { plain "com/example/harvester_ant/harvesterant/storage/CountersBytesPinLaw" (some 0) with
  accessFlags := 49
  interfaces := #[]
  cf := some (fileOf pool1 15 #[] #[{ accessFlags := 2, nameIndex := 5, descriptorIndex := 6, attributes := #[] }, { accessFlags := 9, nameIndex := 19, descriptorIndex := 20, attributes := #[] }] 49 2 #[] #[])
  fields := #[]
  methods := #[k1m0, k1m1]
  instanceTypes := #[]
  staticTypes := #[]
  resolved := Array.replicate 26 none
  statics := none }

def pool2 : Array CpInfo := pool [(4, .class_ 6), (1, u "java/lang/Object"), (0, u "<init>"), (0, u "()V"), (0, .class_ 10), (0, u "com/example/harvester_ant/harvesterant/storage/Counters"), (10, u "bytes"), (0, u "(J)[B"), (0, u "BYTES"), (0, u "I")] 11

def k2m0 : Method := { name := "<init>", desc := "()V", sig := { parameters := [], returnType := none }, accessFlags := 2, code := none }
def k2c1 : Code := { maxStack := 6, maxLocals := 4, code := prog_71_method_2_code, exceptionTable := #[], attributes := #[] }
def k2m1 : Method := { name := "bytes", desc := "(J)[B", sig := { parameters := [.long], returnType := some (.array .byte) }, accessFlags := 8, code := some k2c1 }
/-- com/example/harvester_ant/harvesterant/storage/Counters -/
def k2 : Class := { plain "com/example/harvester_ant/harvesterant/storage/Counters" (some 0) with
  accessFlags := 48
  interfaces := #[]
  cf := some (fileOf pool2 9 #[] #[{ accessFlags := 2, nameIndex := 7, descriptorIndex := 8, attributes := #[] }, { accessFlags := 8, nameIndex := 21, descriptorIndex := 22, attributes := #[] }] 48 4 #[] #[{ accessFlags := 26, nameIndex := 23, descriptorIndex := 24, attributes := #[] }])
  fields := #[{ name := "BYTES", type := .int, accessFlags := 26, slot := 0, constantValue := 0 }]
  methods := #[k2m0, k2m1]
  instanceTypes := #[]
  staticTypes := #[.int]
  resolved := Array.replicate 36 none
  statics := none }

def pool3 : Array CpInfo := pool [(1, u "java/lang/Cloneable"), (0, .class_ 1), (0, u "java/lang/Object"), (0, .class_ 3)] 3

/-- java/lang/Cloneable -/
def k3 : Class := { plain "java/lang/Cloneable" (some 0) with
  accessFlags := 1537
  interfaces := #[]
  cf := some (fileOf pool3 2 #[] #[] 1537 4 #[] #[])
  fields := #[]
  methods := #[]
  instanceTypes := #[]
  staticTypes := #[]
  resolved := Array.replicate 8 none
  statics := none }

def pool4 : Array CpInfo := pool [(1, u "java/io/Serializable"), (0, .class_ 1), (0, u "java/lang/Object"), (0, .class_ 3)] 3

/-- java/io/Serializable -/
def k4 : Class := { plain "java/io/Serializable" (some 0) with
  accessFlags := 1537
  interfaces := #[]
  cf := some (fileOf pool4 2 #[] #[] 1537 4 #[] #[])
  fields := #[]
  methods := #[]
  instanceTypes := #[]
  staticTypes := #[]
  resolved := Array.replicate 8 none
  statics := none }

/-- the primitive byte -/
def k5 : Class := { plain "byte" none with kind := .primitive 'B', accessFlags := 0x411 }
/-- [B -/
def k6 : Class := { plain "[B" (some 0) with kind := .array 5 .byte, interfaces := #[3, 4], accessFlags := 1041 }

/-- the primitive int -/
def k7 : Class := { plain "int" none with kind := .primitive 'I', accessFlags := 0x411 }
/-- [I -/
def k8 : Class := { plain "[I" (some 0) with kind := .array 7 .int, interfaces := #[3, 4], accessFlags := 1041 }

def heap : Heap := #[]
def classes : Array Class := #[k0, k1, k2, k3, k4, k5, k6, k7, k8]
def interned : List (Array UInt16 × Addr) := []
def slotsUsed : Nat := 0
def theMethod : MethodId := ⟨1, 1⟩
def args0 : Array Value := #[.long 5]
def aboutOver (below : List Frame) : State where
  vm := { classes := classes, interned := interned.toArray }
  heap := heap
  slotsUsed := slotsUsed
  threads := #[{ frames := .invoking theMethod args0 :: below }]
def below0 : List Frame := [.native { method := ⟨0, 0⟩, args := #[] }]
def about1 : State := aboutOver below0
def p0 : Program := .bare "" "" ""
def e0 : Env := launch0.env 0 0 0
theorem w_frames : about1.frames = Frame.invoking theMethod args0 :: below0 := rfl
set_option maxRecDepth 65536 in
theorem w_args : argsFit about1.vm theMethod args0 = true := by decide +kernel
set_option maxRecDepth 65536 in
theorem w_heap : heapFits about1 = true := by decide +kernel
set_option maxRecDepth 65536 in
theorem w_runnable : about1.curStatus? = some .runnable := by decide +kernel
set_option maxRecDepth 65536 in
theorem w_alone : about1.alone = true := by decide +kernel
set_option maxRecDepth 65536 in
theorem w_named : about1.methodNamed? x = some theMethod := by decide +kernel
set_option maxRecDepth 65536 in
theorem w_hears : about1.hears theMethod below0 = true := by decide +kernel
set_option maxRecDepth 65536 in
theorem w_ripe : about1.ripe theMethod args0 below0 = true := by decide +kernel
theorem w_running : about1.status = .running := rfl
set_option maxRecDepth 65536 in
theorem w_room : about1.hasRoom e0.platform room_1 = true :=
  launch0.hasRoom_least _ room_1 (by decide +kernel) (by decide +kernel) (by decide +kernel) (by decide +kernel) (by decide +kernel) (by decide +kernel)
theorem allAtoms_all (ts : List Jvm.Cond) (a : Array Jvm.Value) (st : Jvm.State) : (allAtoms ts).before a st = ts.all (fun c => c.before a st) := by
  induction ts with
  | nil => rfl
  | cons c t ih =>
    show (Jvm.Cond.and c (allAtoms t)).before a st = _
    rw [Jvm.Cond.before_and, ih, List.all_cons]
def words1 : List Jvm.Cond := Jvm.Cond.code x code maxLocals ret :: tables_1
/-- a 'code' word, met by the world's own term for the bytes: nothing is compared byte by byte -/
theorem code_word {y : MethodName} {bytes : ByteArray} {mx : Nat} {rt : Option FieldType} {a : Array Value} {s : State} {m : MethodId} {meth : Method} {c : Code} (h1 : s.methodNamed? y = some m) (h2 : s.vm.method? m = some meth) (h3 : meth.code = some c) (h4 : c.code = bytes)
    (h5 : (c.maxLocals == mx && c.exceptionTable.isEmpty && decide (c.maxStack ≤ mostOperands) && decide (meth.sig.returnType = rt) && !meth.locks && decide (parseMethodDescriptor y.desc = some meth.sig)) = true) : (Jvm.Cond.code y bytes mx rt).before a s = true := by
  simp only [Bool.and_eq_true, beq_iff_eq, Bool.not_eq_true', decide_eq_true_eq] at h5
  obtain ⟨⟨⟨⟨⟨g1, g2⟩, g3⟩, g4⟩, g5⟩, g6⟩ := h5
  simp [Cond.before, Cond.holds, Cond.value, h1, h2, h3, h4, g1, g2, g3, g4, g5, g6]
def isCode : Jvm.Cond → Bool
  | .code _ _ _ _ => true
  | _ => false
theorem all_split {L : List Jvm.Cond} {P : Jvm.Cond → Bool} (h1 : L.all (fun c => isCode c || P c) = true) (h2 : ∀ c ∈ L.filter isCode, P c = true) : L.all P = true := by
  refine List.all_eq_true.mpr fun c hc => ?_
  have h := List.all_eq_true.mp h1 c hc
  rcases Bool.eq_false_or_eq_true (isCode c) with hi | hi
  · exact h2 c (List.mem_filter.mpr ⟨hc, hi⟩)
  · simpa [hi] using h
set_option maxRecDepth 65536 in
theorem w_c0 : (Jvm.Cond.code x code maxLocals ret).before args0 about1 = true := code_word (m := ⟨1, 1⟩) (meth := k1m1) (c := k1c1) (by decide +kernel) rfl rfl rfl (by decide +kernel)
set_option maxRecDepth 65536 in
theorem w_c1 : (Jvm.Cond.code ({ cls := "com/example/harvester_ant/harvesterant/storage/Counters", name := "bytes", desc := "(J)[B" } : Jvm.MethodName) prog_71_method_2_code (4 : Nat) (Option.some (Jvm.ClassFile.FieldType.array Jvm.ClassFile.FieldType.byte))).before args0 about1 = true := code_word (m := ⟨2, 1⟩) (meth := k2m1) (c := k2c1) (by decide +kernel) rfl rfl rfl (by decide +kernel)
def codes1 : List Jvm.Cond := [Jvm.Cond.code x code maxLocals ret, Jvm.Cond.code ({ cls := "com/example/harvester_ant/harvesterant/storage/Counters", name := "bytes", desc := "(J)[B" } : Jvm.MethodName) prog_71_method_2_code (4 : Nat) (Option.some (Jvm.ClassFile.FieldType.array Jvm.ClassFile.FieldType.byte))]
set_option maxRecDepth 65536 in
theorem codes_eq : words1.filter isCode = codes1 := rfl
theorem w_codes : ∀ c ∈ words1.filter isCode, c.before args0 about1 = true := by
  rw [codes_eq]
  intro c hc
  simp only [codes1, List.mem_cons, List.not_mem_nil, or_false] at hc
  rcases hc with rfl | rfl
  · exact w_c0
  · exact w_c1
set_option maxRecDepth 65536 in
theorem w_t1 : words1.all (fun c => isCode c || c.before args0 about1) = true := by decide +kernel
theorem w_tables : (allAtoms (Jvm.Cond.code x code maxLocals ret :: tables_1)).before args0 about1 = true := by
  rw [allAtoms_all]
  show words1.all (fun c => c.before args0 about1) = true
  refine all_split ?_ w_codes
  rw [w_t1]
set_option maxRecDepth 65536 in
theorem w_case : (Jvm.Cond.and given_1 narrow_1).before args0 about1 = true := by decide +kernel
theorem w_applies : (headSpec (Jvm.Cond.code x code maxLocals ret :: tables_1) room_1).applies x e0.platform about1 = true :=
  (Spec.applies_iff w_frames).mpr ⟨w_running, w_runnable, w_alone, w_named, w_hears, w_ripe, w_room, w_tables⟩
theorem atStart : AtStart classFile x code maxLocals ret World_1 tables_1 room_1 Calls_1 rest_1 Pre_1 launch0 p0 e0 about1 theMethod args0 below0 :=
  ⟨lists_1, trivial, launch0.admits_env _ _ _, launch0.least_env, fairChoices_fair.cas, fairChoices_fair.clock, w_frames, w_args, w_heap, w_applies, trivial, trivial, w_case⟩
end start1
theorem witness_1 : WitnessClaimed_1 := ⟨start1.p0, start1.e0, start1.about1, start1.theMethod, start1.args0, start1.below0, start1.atStart⟩
end Jvm.Pilot.@@N@@
