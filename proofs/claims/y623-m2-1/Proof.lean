import JvmDerived
import JvmDerived.Pilot.@@N@@Statement
import JvmDerived.Pilot.@@N@@Code
set_option linter.unusedVariables false
set_option linter.unusedSimpArgs false
namespace Jvm.Pilot.@@N@@
open Jvm Jvm.ClassFile Sem Op Lib Jvm.Free Jvm.Stand Jvm.LawKit Jvm.RoadKit Bundle Jvm.Pilot.@@N@@.Jvm.D
section OwnGo
/-! a run that comes to its end: what a body's walk owes, of any state on the way -/
def own_Go (tb : Tables) (e : Env) (below : List Frame) (Q : Outcome → State → Prop) (U : State) : Prop := ∃ s₂ o, Steps tb e below U s₂ ∧ s₂.status = .running ∧ Ended s₂ below o ∧ Q o s₂
theorem own_by {tb : Tables} {e : Env} {below : List Frame} {Q : Outcome → State → Prop} {U V : State} (h : ∀ t, Steps tb e below V t → Steps tb e below U t) (k : own_Go tb e below Q V) : own_Go tb e below Q U := by
  obtain ⟨s2, o, h1, h2⟩ := k; exact ⟨s2, o, h _ h1, h2⟩
theorem own_tr {tb : Tables} {e : Env} {below : List Frame} {Q : Outcome → State → Prop} {U V : State} (h : Steps tb e below U V) (k : own_Go tb e below Q V) : own_Go tb e below Q U := own_by (fun _ q => h.trans q) k
theorem own_gen {α : Type} {x y : α} (h : x = y) {tb : Tables} {e : Env} {below : List Frame} {Q : Outcome → State → Prop} (F : α → State) (k : own_Go tb e below Q (F y)) : own_Go tb e below Q (F x) := h ▸ k
def own_ap (f : Option Value → Heap → List Loc → Prop) (v : Option Value) (h : Heap) (L : List Loc) : Prop := f v h L
/-- what a body's contract says of its end -/
def own_Q (s : State) (Qh : Option Value → Heap → List Loc → Prop) (C S : Nat) (o : Outcome) (U' : State) : Prop := ∃ v L, o = .returned v ∧ Qh v U'.heap L ∧ FrameEnd s o U' L C S
variable {p : Program} {l : Launch} {e : Env} {R : Room} {s : State} {m : MethodId} {args : Array Value} {below : List Frame} {meth : Method} {c : Code} {T : State} {locs : List Loc} {cells slots : Nat} {Z : State} {h : Heap} {a : Addr} {pc : Nat} {Ls : Array Slot} {rest : List Value} {Qh : Option Value → Heap → List Loc → Prop} {C S : Nat} {Q : Outcome → State → Prop}
theorem own_leave (X : Stand p l e R s m args below meth c T locs cells slots) (hlk : meth.locks = false) {v : Option Value} (hv : meth.sig.returnType = none → v = none) {f : JFrame}
    (hst : ∀ fs, (∀ (f : JFrame) (acts : List Action), f.method = m → f.locked = none → f.entered = [] → (doReturn e (T.setTop f) acts v).1 = T.setFrames fs) → Steps p.tables e below (T.setTop f) (T.setFrames fs))
    (hq : Qh v T.heap locs) (hC : cells ≤ C) (hS : slots ≤ S) : own_Go p.tables e below (own_Q s Qh C S) (T.setTop f) := by
  obtain ⟨fs, hr, hrun, hended, hW, hsame⟩ := X.leave (v := v) hv hlk
  exact ⟨_, _, hst fs hr, hrun, hended, _, _, rfl, hq, ⟨_, rfl⟩, hW, hsame.mono hC hS⟩
theorem own_retI (X : Stand p l e R s m args below meth c T locs cells slots) (hx : p.tables.exec = Jvm.exec) (hlk : meth.locks = false) (eT : T.heap = h) (hret : meth.sig.returnType = some .int) {z : Int32} (hd : decode c.code pc = .ok (.ireturn, 1))
    (hq : Qh (some (.int z)) h locs) (hC : cells ≤ C) (hS : slots ≤ S) : own_Go p.tables e below (own_Q s Qh C S) (T.setTop (mkF m pc Ls (.int z :: rest))) :=
  own_leave X hlk (v := some (.int z)) (fun q => by rw [hret] at q; cases q) (fun fs hr => retOut X hx hret rfl (Or.inl ⟨rfl, Or.inl rfl, z, rfl⟩) hd hr) (eT ▸ hq) hC hS
theorem own_retN (X : Stand p l e R s m args below meth c T locs cells slots) (hx : p.tables.exec = Jvm.exec) (hlk : meth.locks = false) (eT : T.heap = h) {t : FieldType} (hret : meth.sig.returnType = some t) (ht : t = .boolean ∨ t = .byte ∨ t = .char ∨ t = .short) {z : Int32} (hd : decode c.code pc = .ok (.ireturn, 1))
    (hq : Qh (some (.int (nar t z))) h locs) (hC : cells ≤ C) (hS : slots ≤ S) : own_Go p.tables e below (own_Q s Qh C S) (T.setTop (mkF m pc Ls (.int z :: rest))) :=
  own_leave X hlk (v := some (.int (nar t z))) (fun q => by rw [hret] at q; cases q) (fun fs hr => retN X hx hret ht hd hr) (eT ▸ hq) hC hS
theorem own_retJ (X : Stand p l e R s m args below meth c T locs cells slots) (hx : p.tables.exec = Jvm.exec) (hlk : meth.locks = false) (eT : T.heap = h) (hret : meth.sig.returnType = some .long) {z : Int64} (hd : decode c.code pc = .ok (.lreturn, 1))
    (hq : Qh (some (.long z)) h locs) (hC : cells ≤ C) (hS : slots ≤ S) : own_Go p.tables e below (own_Q s Qh C S) (T.setTop (mkF m pc Ls (.long z :: rest))) :=
  own_leave X hlk (v := some (.long z)) (fun q => by rw [hret] at q; cases q) (fun fs hr => retOut X hx hret rfl (Or.inr (Or.inl ⟨rfl, rfl, z, rfl⟩)) hd hr) (eT ▸ hq) hC hS
theorem own_retA (X : Stand p l e R s m args below meth c T locs cells slots) (hx : p.tables.exec = Jvm.exec) (hlk : meth.locks = false) (eT : T.heap = h) {t : FieldType} (hret : meth.sig.returnType = some t) (ht : t.isReference = true) {w : Value} (hn : narrow t w = w) (hw : w.isRef = true) (hd : decode c.code pc = .ok (.areturn, 1))
    (hq : Qh (some w) h locs) (hC : cells ≤ C) (hS : slots ≤ S) : own_Go p.tables e below (own_Q s Qh C S) (T.setTop (mkF m pc Ls (w :: rest))) :=
  own_leave X hlk (v := some w) (fun q => by rw [hret] at q; cases q) (fun fs hr => retOut X hx hret hn (Or.inr (Or.inr (Or.inr (Or.inr ⟨rfl, ht, hw⟩)))) hd hr) (eT ▸ hq) hC hS
theorem own_retV (X : Stand p l e R s m args below meth c T locs cells slots) (hx : p.tables.exec = Jvm.exec) (hlk : meth.locks = false) (eT : T.heap = h) (hret : meth.sig.returnType = none) (hd : decode c.code pc = .ok (.return_, 1))
    (hq : Qh none h locs) (hC : cells ≤ C) (hS : slots ≤ S) : own_Go p.tables e below (own_Q s Qh C S) (T.setTop (mkF m pc Ls [])) :=
  own_leave X hlk (v := none) (fun _ => rfl) (fun fs hr => X.returnOut hx hret hd hr) (eT ▸ hq) hC hS
/-! an array by its places -/
def own_upd {α : Type} (f : Nat → α) (k : Nat) (v : α) : Nat → α := fun j => if j = k then v else f j
theorem own_upd_eq {α : Type} (f : Nat → α) (k : Nat) (v : α) : own_upd f k v k = v := by simp [own_upd]
theorem own_upd_ne {α : Type} (f : Nat → α) {k j : Nat} (v : α) (q : j ≠ k) : own_upd f k v j = f j := by simp [own_upd, q]
def own_Ar (Z : State) (h : Heap) (a : Addr) (ty : FieldType) (n : Nat) (f : Nat → Value) : Prop := ∃ cl : Cell, Arr Z h a cl ty ∧ cl.slots.size = n ∧ ∀ j, j < n → cl.slots[j]? = some (f j)
/-- ints and what is kept as ints -/
abbrev own_AI (Z : State) (h : Heap) (a : Addr) (ty : FieldType) (n : Nat) (f : Nat → Int32) : Prop := own_Ar Z h a ty n (fun j => .int (f j))
abbrev own_AJ (Z : State) (h : Heap) (a : Addr) (n : Nat) (f : Nat → Int64) : Prop := own_Ar Z h a .long n (fun j => .long (f j))
section
variable {h' : Heap} {b : Addr} {ty : FieldType} {n : Nat} {f : Nat → Value} {v : Value} {sl : Nat} {ws : List Addr}
theorem own_Ar.lt (A : own_Ar Z h a ty n f) : a < h.size := by obtain ⟨cl, q, -⟩ := A; exact q.lt
theorem own_Ar.ext (A : own_Ar Z h a ty n f) (E : Ext h h') : own_Ar Z h' a ty n f := by obtain ⟨cl, q, r⟩ := A; exact ⟨cl, q.ext E, r⟩
theorem own_Ar.other (A : own_Ar Z h a ty n f) (W : Wr h h' b sl v) (q : a ≠ b) : own_Ar Z h' a ty n f := by obtain ⟨cl, r, r'⟩ := A; exact ⟨cl, r.other W q, r'⟩
theorem own_Ar.keep (A : own_Ar Z h a ty n f) (K : Keep h h' ws) (q : a ∉ ws) : own_Ar Z h' a ty n f := by obtain ⟨cl, r, r'⟩ := A; exact ⟨cl, ⟨K.2.1 _ _ r.1 q, r.2⟩, r'⟩
theorem own_Ar.congr (A : own_Ar Z h a ty n f) {g : Nat → Value} (q : ∀ j, j < n → f j = g j) : own_Ar Z h a ty n g := by obtain ⟨cl, r, r1, r2⟩ := A; exact ⟨cl, r, r1, fun j hj => by rw [r2 j hj, q j hj]⟩
theorem own_in {j : Int32} {k n : Nat} (hk : j.toInt = (k : Int)) (hn : k < n) {cl : Cell} (S : cl.slots.size = n) : ¬ (j < 0 ∨ cl.slots.size ≤ j.toNatClampNeg) ∧ j.toNatClampNeg = k := by
  have q : j.toNatClampNeg = k := by simp [Int32.toNatClampNeg, hk]
  refine ⟨fun r => ?_, q⟩
  rcases r with r | r
  · rw [Int32.lt_iff_toInt_lt] at r; simp only [Int32.reduceToInt] at r; omega
  · omega
theorem own_Ar.set (A : own_Ar Z h a ty n f) {k : Nat} (hk : k < n) (W : Wr h h' a k v) : own_Ar Z h' a ty n (own_upd f k v) := by
  obtain ⟨cl, r, r1, r2⟩ := A
  refine ⟨_, r.same W, by rw [sz_set]; exact r1, fun j hj => ?_⟩
  show (cl.slots.setIfInBounds k v)[j]? = _
  by_cases q : j = k
  · subst q; simp [own_upd, r1, hj]
  · rw [Array.getElem?_setIfInBounds_ne (fun y => q y.symm), r2 j hj, own_upd_ne _ _ q]
end
theorem own_bal (X : Stand p l e R s m args below meth c T locs cells slots) (hx : p.tables.exec = Jvm.exec) (hZ : Z.Warmed39 s.vm) (eT : T.heap = h) {n : Nat} {f : Nat → Value} (A : own_Ar Z h a .byte n f) {j : Int32} (k : Nat) (hk : j.toInt = (k : Int)) (hn : k < n) (hd : decode c.code pc = .ok (.baload, 1)) {t : State}
    (kt : Steps p.tables e below (T.setTop (mkF m (pc + 1) Ls (f k :: rest))) t) : Steps p.tables e below (T.setTop (mkF m pc Ls (.int j :: .ref a :: rest))) t := by
  obtain ⟨cl, r, r1, r2⟩ := A
  obtain ⟨q1, q2⟩ := own_in hk hn r1
  exact X.baloadBytes hx (j := j) (v := f k) (by rw [eT]; exact r.1) (State.isArrayOf_alike hZ.alike r.2.1) r.2.2 q1 (by rw [q2]; exact r2 k hn) (g := mkF m pc Ls (.int j :: .ref a :: rest)) rfl rfl hd _ kt
theorem own_ial (X : Stand p l e R s m args below meth c T locs cells slots) (hx : p.tables.exec = Jvm.exec) (hZ : Z.Warmed39 s.vm) (eT : T.heap = h) {n : Nat} {f : Nat → Value} (A : own_Ar Z h a .int n f) {j : Int32} (k : Nat) (hk : j.toInt = (k : Int)) (hn : k < n) (hd : decode c.code pc = .ok (.iaload, 1)) {t : State}
    (kt : Steps p.tables e below (T.setTop (mkF m (pc + 1) Ls (f k :: rest))) t) : Steps p.tables e below (T.setTop (mkF m pc Ls (.int j :: .ref a :: rest))) t := by
  obtain ⟨cl, r, r1, r2⟩ := A
  obtain ⟨q1, q2⟩ := own_in hk hn r1
  exact X.iaload hx (j := j) (v := f k) (by rw [eT]; exact r.1) (State.isArrayOf_alike hZ.alike r.2.1) r.2.2 q1 (by rw [q2]; exact r2 k hn) (g := mkF m pc Ls (.int j :: .ref a :: rest)) rfl rfl hd _ kt
theorem own_lal (X : Stand p l e R s m args below meth c T locs cells slots) (hx : p.tables.exec = Jvm.exec) (hZ : Z.Warmed39 s.vm) (eT : T.heap = h) {n : Nat} {f : Nat → Value} (A : own_Ar Z h a .long n f) {j : Int32} (k : Nat) (hk : j.toInt = (k : Int)) (hn : k < n) (hd : decode c.code pc = .ok (.laload, 1)) {t : State}
    (kt : Steps p.tables e below (T.setTop (mkF m (pc + 1) Ls (f k :: rest))) t) : Steps p.tables e below (T.setTop (mkF m pc Ls (.int j :: .ref a :: rest))) t := by
  obtain ⟨cl, r, r1, r2⟩ := A
  obtain ⟨q1, q2⟩ := own_in hk hn r1
  exact X.laload hx (j := j) (v := f k) (by rw [eT]; exact r.1) (State.isArrayOf_alike hZ.alike r.2.1) r.2.2 q1 (by rw [q2]; exact r2 k hn) (g := mkF m pc Ls (.int j :: .ref a :: rest)) rfl rfl hd _ kt
theorem own_len (X : Stand p l e R s m args below meth c T locs cells slots) (hx : p.tables.exec = Jvm.exec) (hZ : Z.Warmed39 s.vm) (eT : T.heap = h) {ty : FieldType} {n : Nat} {f : Nat → Value} (A : own_Ar Z h a ty n f) (z : Int32) (hz : z = n.toInt32) (hd : decode c.code pc = .ok (.arraylength, 1)) {t : State}
    (kt : Steps p.tables e below (T.setTop (mkF m (pc + 1) Ls (.int z :: rest))) t) : Steps p.tables e below (T.setTop (mkF m pc Ls (.ref a :: rest))) t := by
  obtain ⟨cl, r, r1, r2⟩ := A
  refine X.arraylength hx (by rw [eT]; exact r.1) (State.isArrayOf_alike hZ.alike r.2.1) (g := mkF m pc Ls (.ref a :: rest)) rfl rfl hd _ ?_
  rw [r1, ← hz]; exact kt
theorem own_bas (X : Stand p l e R s m args below meth c T locs cells slots) (hx : p.tables.exec = Jvm.exec) (hZ : Z.Warmed39 s.vm) (eT : T.heap = h) {n : Nat} {f : Nat → Int32} (A : own_AI Z h a .byte n f) {j x : Int32} (k : Nat) (hk : j.toInt = (k : Int)) (hn : k < n) (hd : decode c.code pc = .ok (.bastore, 1))
    (K : ∀ T' h', Stand p l e R s m args below meth c T' (locs ++ [⟨a, k⟩]) cells slots → T'.heap = h' → Wr h h' a k (.int (nar .byte x)) → own_AI Z h' a .byte n (own_upd f k (nar .byte x)) → own_Go p.tables e below Q (T'.setTop (mkF m (pc + 1) Ls rest))) :
    own_Go p.tables e below Q (T.setTop (mkF m pc Ls (.int x :: .int j :: .ref a :: rest))) := by
  obtain ⟨cl, r, r1, r2⟩ := id A
  obtain ⟨q1, q2⟩ := own_in hk hn r1
  obtain ⟨T', h', X', e', W, st⟩ := stB X hx hZ eT r (j := j) (x := x) q1 (g := mkF m pc Ls (.int x :: .int j :: .ref a :: rest)) rfl rfl hd
  rw [q2] at X' W
  exact own_by st (K T' h' X' e' W ((A.set hn W).congr fun i hi => by simp only [own_upd]; split <;> rfl))
theorem own_ias (X : Stand p l e R s m args below meth c T locs cells slots) (hx : p.tables.exec = Jvm.exec) (hZ : Z.Warmed39 s.vm) (eT : T.heap = h) {n : Nat} {f : Nat → Int32} (A : own_AI Z h a .int n f) {j x : Int32} (k : Nat) (hk : j.toInt = (k : Int)) (hn : k < n) (hd : decode c.code pc = .ok (.iastore, 1))
    (K : ∀ T' h', Stand p l e R s m args below meth c T' (locs ++ [⟨a, k⟩]) cells slots → T'.heap = h' → Wr h h' a k (.int x) → own_AI Z h' a .int n (own_upd f k x) → own_Go p.tables e below Q (T'.setTop (mkF m (pc + 1) Ls rest))) :
    own_Go p.tables e below Q (T.setTop (mkF m pc Ls (.int x :: .int j :: .ref a :: rest))) := by
  obtain ⟨cl, r, r1, r2⟩ := id A
  obtain ⟨q1, q2⟩ := own_in hk hn r1
  obtain ⟨T', h', X', e', W, st⟩ := stI X hx hZ eT r (j := j) (x := x) q1 (g := mkF m pc Ls (.int x :: .int j :: .ref a :: rest)) rfl rfl hd
  rw [q2] at X' W
  exact own_by st (K T' h' X' e' W ((A.set hn W).congr fun i hi => by simp only [own_upd]; split <;> rfl))
theorem own_las (X : Stand p l e R s m args below meth c T locs cells slots) (hx : p.tables.exec = Jvm.exec) (hZ : Z.Warmed39 s.vm) (eT : T.heap = h) {n : Nat} {f : Nat → Int64} (A : own_AJ Z h a n f) {j : Int32} {x : Int64} (k : Nat) (hk : j.toInt = (k : Int)) (hn : k < n) (hd : decode c.code pc = .ok (.lastore, 1))
    (K : ∀ T' h', Stand p l e R s m args below meth c T' (locs ++ [⟨a, k⟩]) cells slots → T'.heap = h' → Wr h h' a k (.long x) → own_AJ Z h' a n (own_upd f k x) → own_Go p.tables e below Q (T'.setTop (mkF m (pc + 1) Ls rest))) :
    own_Go p.tables e below Q (T.setTop (mkF m pc Ls (.long x :: .int j :: .ref a :: rest))) := by
  obtain ⟨cl, r, r1, r2⟩ := id A
  obtain ⟨q1, q2⟩ := own_in hk hn r1
  obtain ⟨T', h', X', e', W, st⟩ := stJ X hx hZ eT r (j := j) (x := x) q1 (g := mkF m pc Ls (.long x :: .int j :: .ref a :: rest)) rfl rfl hd
  rw [q2] at X' W
  exact own_by st (K T' h' X' e' W ((A.set hn W).congr fun i hi => by simp only [own_upd]; split <;> rfl))
theorem own_newP (X : Stand p l e R s m args below meth c T locs cells slots) (hx : p.tables.exec = Jvm.exec) (hZ : Z.Warmed39 s.vm) {a0 : Array Value} {aty : ArrayType} (w : (Cond.arrayClass (newarray.typeOf aty)).before a0 Z = true) (eT : T.heap = h) {n : Int32} (k : Nat) (hk : n.toInt = (k : Int)) (cap : Nat) (hcap : k ≤ cap) (hb : cap * 8 ≤ 536870912) (hc : cells + 1 ≤ R.cells) (hl : slots + cap ≤ R.slots)
    (hd : decode c.code pc = .ok (.newarray aty, 2))
    (K : ∀ T' h', Stand p l e R s m args below meth c T' locs (cells + 1) (slots + cap) → T'.heap = h' → Ext h h' → own_Ar Z h' h.size (newarray.typeOf aty) k (fun _ => defaultValue (newarray.typeOf aty)) → own_Go p.tables e below Q (T'.setTop (mkF m (pc + 2) Ls (.ref h.size :: rest)))) :
    own_Go p.tables e below Q (T.setTop (mkF m pc Ls (.int n :: rest))) := by
  have q : n.toNatClampNeg = k := by simp [Int32.toNatClampNeg, hk]
  have q0 : ¬ n < 0 := by rw [Int32.lt_iff_toInt_lt]; simp only [Int32.reduceToInt]; omega
  obtain ⟨T', h', kk, X', e', E, A, st⟩ := newP X hx hZ w eT (n := n) (g := mkF m pc Ls (.int n :: rest)) rfl hd rfl q0 (cap := cap) (by rw [q]; exact hcap) hb hc hl
  refine own_by st (K T' h' X' e' E ⟨_, A, by rw [sz_new, q], fun j hj => ?_⟩)
  simp [newA, q, hj]
theorem own_newPE (X : Stand p l e R s m args below meth c T locs cells slots) (hx : p.tables.exec = Jvm.exec) (hZ : Z.Warmed39 s.vm) {a0 : Array Value} {aty : ArrayType} (w : (Cond.arrayClass (newarray.typeOf aty)).before a0 Z = true) (eT : T.heap = h) {n : Int32} (k : Nat) (hk : n.toInt = (k : Int)) (cap : Nat) (hcap : k ≤ cap) (hb : cap * 8 ≤ 536870912) (hc : cells + 1 ≤ R.cells) (hl : slots + cap ≤ R.slots)
    (hd : decode c.code pc = .ok (.newarray aty, 2)) {ad : String} (had : "[" ++ (newarray.typeOf aty).toString = ad)
    (K : ∀ T' h', Stand p l e R s m args below meth c T' locs (cells + 1) (slots + cap) → T'.heap = h' → Ext h h' → own_Ar Z h' h.size (newarray.typeOf aty) k (fun _ => defaultValue (newarray.typeOf aty)) → Exa Z h' h.size ad → own_Go p.tables e below Q (T'.setTop (mkF m (pc + 2) Ls (.ref h.size :: rest)))) :
    own_Go p.tables e below Q (T.setTop (mkF m pc Ls (.int n :: rest))) := by
  have q : n.toNatClampNeg = k := by simp [Int32.toNatClampNeg, hk]
  have q0 : ¬ n < 0 := by rw [Int32.lt_iff_toInt_lt]; simp only [Int32.reduceToInt]; omega
  obtain ⟨T', h', kk, X', e', E, A, EX, st⟩ := newPE X hx hZ w eT (n := n) (g := mkF m pc Ls (.int n :: rest)) rfl hd rfl q0 (cap := cap) (by rw [q]; exact hcap) hb hc hl had
  refine own_by st (K T' h' X' e' E ⟨_, A, by rw [sz_new, q], fun j hj => ?_⟩ EX)
  simp [newA, q, hj]
section
variable {a0 : Array Value} {own : String} {index : Nat} {y : MethodName} {bytes : ByteArray} {maxL : Nat} {ret : Option FieldType} {rm : Room} {as' : Array Value} {Qc : Option Value → Heap → List Loc → Prop} {argsL : List Value} {St : List Value}
/-! calls by contract, with what comes behind -/
theorem own_callS (X : Stand p l e R s m args below meth c T locs cells slots) (hx : p.tables.exec = Jvm.exec) (hZ : Z.Warmed39 s.vm) (hown : s.vm.findClass own = some m.cls)
    (w1 : (Cond.methodLink own index y).before a0 Z = true) (w2 : (Cond.static y).before a0 Z = true) (w3 : (Cond.initialized y.cls).before a0 Z = true) (w4 : (Cond.code y bytes maxL ret).before a0 Z = true) (hy : y.cls ≠ "java/lang/invoke/MethodHandle" ∧ y.cls ≠ "java/lang/invoke/VarHandle")
    (hM : MetFree l y (head1 [Cond.code y bytes maxL ret] rm) (fun a U => a = as' ∧ Z.Warmed39 U.vm ∧ U.heap = h) (fun _ _ _ _ _ => True) (fun _ U o U' => ∃ v L, o = .returned v ∧ Qc v U'.heap L ∧ FrameEnd U o U' L rm.cells rm.slots))
    (eT : T.heap = h) (hsize : Ls.size = c.maxLocals) (argsL rest : List Value) (hst : St = argsL.reverse ++ rest) (hlen : ∀ sig, parseMethodDescriptor y.desc = some sig → argsL.length = sig.parameters.length) (ha : argsL.toArray = as') (W : Nat) (hW : 2 * 0 + (rest.map fun v => v.category).sum ≤ W)
    (hf : rm.frames + 1 ≤ R.frames) (hl : W + (maxL + 11) + rm.locals ≤ R.locals) (hc : cells + rm.cells ≤ R.cells) (hs : slots + rm.slots ≤ R.slots) (hd : decode c.code pc = .ok (.invokestatic index, 3))
    (K : ∀ T' Lc v, Stand p l e R s m args below meth c T' (locs ++ Lc) (cells + rm.cells) (slots + rm.slots) → Qc v T'.heap Lc → own_Go p.tables e below Q (T'.setTop (mkF m (pc + 3) Ls (v.toList ++ rest)))) :
    own_Go p.tables e below Q (T.setTop (mkF m pc Ls St)) := by
  obtain ⟨v, _, ⟨T1, L1, k1, n1⟩, -, X1, ⟨Lc, hQ, l1, y1, z1⟩, st1⟩ := Jvm.LawKit.callS X hx (y := y) hown (mvT hZ w1) (mvT hZ w2) (mvT hZ w3) (mvT hZ w4) hy (backOf (W := W) hM hZ w4 w3 hf hl) (g := mkF m pc Ls St) rfl hsize (argsL := argsL) (rest := rest) hlen hst hW hd (fun _ _ => ⟨ha, eT, hc, hs⟩)
  dsimp only [Pt.U, Pt.locs, Pt.cells, Pt.slots] at X1 l1 y1 z1 st1 hQ
  subst l1 y1 z1
  exact own_by st1 (K T1 Lc v X1 hQ)
theorem own_callI (X : Stand p l e R s m args below meth c T locs cells slots) (hx : p.tables.exec = Jvm.exec) (hZ : Z.Warmed39 s.vm) (hown : s.vm.findClass own = some m.cls) (hy1 : y.name = "<init>")
    (w1 : (Cond.methodLink own index y).before a0 Z = true) (w2 : (Cond.instanceMethod y).before a0 Z = true) (w3 : (Cond.initialized y.cls).before a0 Z = true) (w4 : (Cond.code y bytes maxL none).before a0 Z = true) (hy : y.cls ≠ "java/lang/invoke/MethodHandle" ∧ y.cls ≠ "java/lang/invoke/VarHandle")
    (hM : MetFree l y (head1 [Cond.code y bytes maxL none] rm) (fun a U => a = as' ∧ Z.Warmed39 U.vm ∧ U.heap = h) (fun _ _ _ _ _ => True) (fun _ U o U' => ∃ v L, o = .returned v ∧ Qc v U'.heap L ∧ FrameEnd U o U' L rm.cells rm.slots))
    (eT : T.heap = h) (hsize : Ls.size = c.maxLocals) (b : Addr) (argsL rest : List Value) (hst : St = argsL.reverse ++ .ref b :: rest) (hlen : ∀ sig, parseMethodDescriptor y.desc = some sig → argsL.length = sig.parameters.length) (ha : (Value.ref b :: argsL).toArray = as') (W : Nat) (hW : 2 * 0 + (rest.map fun v => v.category).sum ≤ W)
    (hf : rm.frames + 1 ≤ R.frames) (hl : W + (maxL + 11) + rm.locals ≤ R.locals) (hc : cells + rm.cells ≤ R.cells) (hs : slots + rm.slots ≤ R.slots) (hd : decode c.code pc = .ok (.invokespecial index, 3))
    (K : ∀ T' Lc v, Stand p l e R s m args below meth c T' (locs ++ Lc) (cells + rm.cells) (slots + rm.slots) → Qc v T'.heap Lc → own_Go p.tables e below Q (T'.setTop (mkF m (pc + 3) Ls (v.toList ++ rest)))) :
    own_Go p.tables e below Q (T.setTop (mkF m pc Ls St)) := by
  obtain ⟨v, _, ⟨T1, L1, k1, n1⟩, -, X1, ⟨Lc, hQ, l1, y1, z1⟩, st1⟩ := X.specialBack hx (y := y) hy1 hown (mvT hZ w1) (mvT hZ w2) (mvT hZ w4) hy (backOf (W := W) hM hZ w4 w3 hf hl) (g := mkF m pc Ls St) rfl hsize (Steps.refl _) (a := b) (argsL := argsL) (rest := rest) hlen hst hW hd (fun _ _ => ⟨ha, eT, hc, hs⟩)
  dsimp only [Pt.U, Pt.locs, Pt.cells, Pt.slots] at X1 l1 y1 z1 st1 hQ
  subst l1 y1 z1
  exact own_tr st1 (K T1 Lc v X1 hQ)
theorem own_callV {C : String} {z : MethodName} (X : Stand p l e R s m args below meth c T locs cells slots) (hx : p.tables.exec = Jvm.exec) (hZ : Z.Warmed39 s.vm) (hown : s.vm.findClass own = some m.cls)
    (w1 : (Cond.methodLink own index y).before a0 Z = true) (w2 : (Cond.declares y).before a0 Z = true) (hnf : NotFace s y) (w5 : (Cond.selects C y z).before a0 Z = true) (w6 : (Cond.instanceMethod z).before a0 Z = true) (w3 : (Cond.initialized z.cls).before a0 Z = true) (w4 : (Cond.code z bytes maxL ret).before a0 Z = true) (hy : y.cls ≠ "java/lang/invoke/MethodHandle" ∧ y.cls ≠ "java/lang/invoke/VarHandle")
    (hM : MetFree l z (head1 [Cond.code z bytes maxL ret] rm) (fun a U => a = as' ∧ Z.Warmed39 U.vm ∧ U.heap = h) (fun _ _ _ _ _ => True) (fun _ U o U' => ∃ v L, o = .returned v ∧ Qc v U'.heap L ∧ FrameEnd U o U' L rm.cells rm.slots))
    (eT : T.heap = h) (b : Addr) (E : Exa Z h b C) (hsize : Ls.size = c.maxLocals) (argsL rest : List Value) (hst : St = argsL.reverse ++ .ref b :: rest) (hlen : ∀ sig, parseMethodDescriptor y.desc = some sig → argsL.length = sig.parameters.length) (ha : (Value.ref b :: argsL).toArray = as') (W : Nat) (hW : 2 * 0 + (rest.map fun v => v.category).sum ≤ W)
    (hf : rm.frames + 1 ≤ R.frames) (hl : W + (maxL + 11) + rm.locals ≤ R.locals) (hc : cells + rm.cells ≤ R.cells) (hs : slots + rm.slots ≤ R.slots) (hd : decode c.code pc = .ok (.invokevirtual index, 3))
    (K : ∀ T' Lc v, Stand p l e R s m args below meth c T' (locs ++ Lc) (cells + rm.cells) (slots + rm.slots) → Qc v T'.heap Lc → own_Go p.tables e below Q (T'.setTop (mkF m (pc + 3) Ls (v.toList ++ rest)))) :
    own_Go p.tables e below Q (T.setTop (mkF m pc Ls St)) := by
  obtain ⟨cq, kq, qa, qb, qc⟩ := isOf hZ eT E
  obtain ⟨v, _, ⟨T1, L1, k1, n1⟩, -, X1, ⟨Lc, hQ, l1, y1, z1⟩, st1⟩ := X.virtualBack hx (y := y) (z := z) hown (mvT hZ w1) (mvT hZ w2) hnf (mvT hZ w5) (mvT hZ w6) hy (backOf (W := W) hM hZ w4 w3 hf hl) qa qc (g := mkF m pc Ls St) rfl hsize (Steps.refl _) (argsL := argsL) (rest := rest) hlen hst hW hd (fun _ _ => ⟨ha, eT, hc, hs⟩)
  dsimp only [Pt.U, Pt.locs, Pt.cells, Pt.slots] at X1 l1 y1 z1 st1 hQ
  subst l1 y1 z1
  exact own_tr st1 (K T1 Lc v X1 hQ)
theorem own_selp {s : State} {aa : Array Value} {y y' : MethodName} (hc : y.cls = y'.cls) (w1 : (Cond.selects y'.cls y' y').before aa s = true) (hpriv : s.PrivateAt y) (hinst : (Cond.instanceMethod y).before aa s = true) (hy : y.cls ≠ "java/lang/invoke/MethodHandle" ∧ y.cls ≠ "java/lang/invoke/VarHandle") : (Cond.selects y.cls y y).before aa s = true := by
  obtain ⟨c2, r2, m2, q0, -, q3, -, kP, hkP, hkPi⟩ := Cond.selects_spec w1
  have h1 : s.vm.findClass y'.cls = some m2.cls := findClass_of_methodNamed q3
  exact selects_self_of_private (by rw [hc]; exact h1) hkP hkPi hpriv hinst hy
theorem own_callP {y' : MethodName} (X : Stand p l e R s m args below meth c T locs cells slots) (hx : p.tables.exec = Jvm.exec) (hZ : Z.Warmed39 s.vm) (hown : s.vm.findClass own = some m.cls)
    (w1 : (Cond.methodLink own index y).before a0 Z = true) (w2 : (Cond.instanceMethod y).before a0 Z = true) (w5 : (Cond.privateMethod y).before a0 Z = true) (hcc : y.cls = y'.cls) (w6 : (Cond.selects y'.cls y' y').before a0 Z = true) (w3 : (Cond.initialized y.cls).before a0 Z = true) (w4 : (Cond.code y bytes maxL ret).before a0 Z = true) (hy : y.cls ≠ "java/lang/invoke/MethodHandle" ∧ y.cls ≠ "java/lang/invoke/VarHandle")
    (hM : MetFree l y (head1 [Cond.code y bytes maxL ret] rm) (fun a U => a = as' ∧ Z.Warmed39 U.vm ∧ U.heap = h) (fun _ _ _ _ _ => True) (fun _ U o U' => ∃ v L, o = .returned v ∧ Qc v U'.heap L ∧ FrameEnd U o U' L rm.cells rm.slots))
    (eT : T.heap = h) (b : Addr) {C : String} (E : Exa Z h b C) (hsize : Ls.size = c.maxLocals) (argsL rest : List Value) (hst : St = argsL.reverse ++ .ref b :: rest) (hlen : ∀ sig, parseMethodDescriptor y.desc = some sig → argsL.length = sig.parameters.length) (ha : (Value.ref b :: argsL).toArray = as') (W : Nat) (hW : 2 * 0 + (rest.map fun v => v.category).sum ≤ W)
    (hf : rm.frames + 1 ≤ R.frames) (hl : W + (maxL + 11) + rm.locals ≤ R.locals) (hc : cells + rm.cells ≤ R.cells) (hs : slots + rm.slots ≤ R.slots) (hd : decode c.code pc = .ok (.invokevirtual index, 3))
    (K : ∀ T' Lc v, Stand p l e R s m args below meth c T' (locs ++ Lc) (cells + rm.cells) (slots + rm.slots) → Qc v T'.heap Lc → own_Go p.tables e below Q (T'.setTop (mkF m (pc + 3) Ls (v.toList ++ rest)))) :
    own_Go p.tables e below Q (T.setTop (mkF m pc Ls St)) := by
  obtain ⟨cq, q1, q2⟩ := E.cell
  have hpr := Cond.privateMethod_at (mvP hZ w5 (args := #[]))
  obtain ⟨v, _, ⟨T1, L1, k1, n1⟩, -, X1, ⟨Lc, hQ, l1, y1, z1⟩, st1⟩ := X.privateBack hx (y := y) hown (mvT hZ w1) (mvT hZ w2) (own_selp hcc (mvT hZ w6) hpr (mvT hZ w2) hy) hpr (mvT hZ w4) hy (backOf (W := W) hM hZ w4 w3 hf hl) (g := mkF m pc Ls St) rfl hsize (Steps.refl _) (a := b) (by rw [eT]; exact q1) q2 (argsL := argsL) (rest := rest) hlen hst hW hd (fun _ _ => ⟨ha, eT, hc, hs⟩)
  dsimp only [Pt.U, Pt.locs, Pt.cells, Pt.slots] at X1 l1 y1 z1 st1 hQ
  subst l1 y1 z1
  exact own_tr st1 (K T1 Lc v X1 hQ)
end
theorem own_size_wr {h h' : Heap} {b : Addr} {sl : Nat} {v : Value} {n0 : Nat} (W : Wr h h' b sl v) (q : n0 ≤ h.size) : n0 ≤ h'.size := by rw [W.size]; exact q
end OwnGo
theorem own_pd0 : parseMethodDescriptor "(IIIIJ)Z" = some ⟨[.int, .int, .int, .int, .long], some .boolean⟩ := by decide +kernel
theorem own_pd1 : parseMethodDescriptor "(JI)I" = some ⟨[.long, .int], some .int⟩ := by decide +kernel
theorem own_pd2 : parseMethodDescriptor "()V" = some ⟨[], none⟩ := by decide +kernel
theorem own_pd3 : parseMethodDescriptor "(D)V" = some ⟨[.double], none⟩ := by decide +kernel
theorem own_pd4 : parseMethodDescriptor "()D" = some ⟨[], some .double⟩ := by decide +kernel
section OwnTwoSum
/-! whole numbers rounded to 53 digits -/
def own_RS (v r : Int) : Prop := ∃ k : Nat, k ≤ 11 ∧ (k = 0 ∨ 2 ^ (52 + k) ≤ v.natAbs) ∧ v.natAbs ≤ 2 ^ (53 + k) ∧ ((2 ^ k : Nat) : Int) ∣ r ∧ 2 * (r - v).natAbs ≤ 2 ^ k
def own_Rep (x : Int) : Prop := ∃ k : Nat, k ≤ 11 ∧ ((2 ^ k : Nat) : Int) ∣ x ∧ x.natAbs ≤ 2 ^ (53 + k)
/-- few digits: where it is great, it is a multiple of a power -/
def own_Few (y : Int) : Prop := ∀ j : Nat, j ≤ 11 → 2 ^ (32 + j) ≤ y.natAbs → ((2 ^ j : Nat) : Int) ∣ y
theorem own_zero {P : Nat} {d : Int} (h : (P : Int) ∣ d) (hs : d.natAbs < P) : d = 0 := by
  have h2 : P ∣ d.natAbs := Int.ofNat_dvd_left.mp h
  have := Nat.eq_zero_of_dvd_of_lt h2 hs
  omega
theorem own_le2 {a b : Nat} (h : a ≤ b) : 2 ^ a ≤ 2 ^ b := Nat.pow_le_pow_right (by decide) h
theorem own_dvd2 {a b : Nat} (h : a ≤ b) : ((2 ^ a : Nat) : Int) ∣ ((2 ^ b : Nat) : Int) := Int.natCast_dvd_natCast.mpr (Nat.pow_dvd_pow 2 h)
theorem own_pos2 (a : Nat) : 0 < 2 ^ a := Nat.two_pow_pos a
theorem own_52 (k : Nat) : 2 ^ (52 + k) = 4503599627370496 * 2 ^ k := by rw [Nat.pow_add]
theorem own_53 (k : Nat) : 2 ^ (53 + k) = 9007199254740992 * 2 ^ k := by rw [Nat.pow_add]
theorem own_32 (k : Nat) : 2 ^ (32 + k) = 4294967296 * 2 ^ k := by rw [Nat.pow_add]
theorem own_RS.near {v r : Int} (h : own_RS v r) : (r - v).natAbs ≤ 1024 := by
  obtain ⟨k, hk, -, -, -, h5⟩ := h
  have := own_le2 hk
  have e : 2 ^ 11 = 2048 := by decide
  omega
/-- what a multiple of 2^k just above the bound is -/
theorem own_mult {P M : Nat} {r : Int} (h : (P : Int) ∣ r) (hr : r.natAbs < (M + 1) * P) : r.natAbs ≤ M * P := by
  have h2 : P ∣ r.natAbs := Int.ofNat_dvd_left.mp h
  obtain ⟨c, hc⟩ := h2
  rw [hc] at hr ⊢
  have hP : 0 < P := by rcases Nat.eq_zero_or_pos P with h0 | h0; subst h0; simp at hr; exact h0
  have : c < M + 1 := by
    rw [Nat.mul_comm] at hr; exact Nat.lt_of_mul_lt_mul_right hr
  rw [Nat.mul_comm P c]; exact Nat.mul_le_mul_right _ (by omega)
theorem own_RS.rep {v r : Int} (h : own_RS v r) : own_Rep r := by
  obtain ⟨k, hk, -, h3, h4, h5⟩ := h
  refine ⟨k, hk, h4, ?_⟩
  rw [own_53] at h3 ⊢
  refine own_mult h4 ?_
  have := own_pos2 k
  rw [Nat.add_mul]; omega
theorem own_RS.same {v r : Int} {k : Nat} (h4 : ((2 ^ k : Nat) : Int) ∣ r) (h5 : 2 * (r - v).natAbs ≤ 2 ^ k) (hv : ((2 ^ k : Nat) : Int) ∣ v) : r = v := by
  have := own_zero (Int.dvd_sub h4 hv) (by have := own_pos2 k; omega)
  omega
theorem own_RS.exact {v r : Int} (h : own_RS v r) {j : Nat} (hj : ((2 ^ j : Nat) : Int) ∣ v) (hv : v.natAbs ≤ 2 ^ (53 + j)) : r = v := by
  obtain ⟨k, hk, h2, h3, h4, h5⟩ := h
  by_cases q : k ≤ j
  · exact own_RS.same h4 h5 (Int.dvd_trans (own_dvd2 q) hj)
  · have h2 : 2 ^ (52 + k) ≤ v.natAbs := by rcases h2 with h | h; omega; exact h
    have l1 : 2 ^ (53 + j) ≤ 2 ^ (52 + k) := own_le2 (by omega)
    have e : v.natAbs = 2 ^ (53 + j) := by omega
    have e2 : 2 ^ (52 + k) = 2 ^ (53 + j) := by omega
    have e3 : 52 + k = 53 + j := (Nat.pow_right_inj (by decide)).mp e2
    refine own_RS.same h4 h5 ?_
    rw [Int.ofNat_dvd_left, e]
    exact Nat.pow_dvd_pow 2 (by omega)
theorem own_RS.dvd {v r : Int} (h : own_RS v r) {i : Nat} (hi : ((2 ^ i : Nat) : Int) ∣ v) : ((2 ^ i : Nat) : Int) ∣ r := by
  obtain ⟨k, hk, h2, h3, h4, h5⟩ := h
  by_cases q : k ≤ i
  · rw [own_RS.same h4 h5 (Int.dvd_trans (own_dvd2 q) hi)]; exact hi
  · exact Int.dvd_trans (own_dvd2 (by omega)) h4
/-- the one difference of the two-sum that is no small number -/
theorem own_twosum {x y s tt a : Int} (hx : own_Rep x) (hy : own_Few y) (h1 : own_RS (x + y) s) (h2 : own_RS (s - x) tt) (h3 : own_RS (s - tt) a) : a = s - tt := by
  by_cases q : tt = s - x
  · obtain ⟨k, hk, x1, x2⟩ := hx
    have e : s - tt = x := by omega
    rw [e] at h3 ⊢
    exact h3.exact x1 x2
  have n1 := h1.near
  obtain ⟨j, hj, j2, j3, j4, j5⟩ := h2
  have nd : ¬ ((2 ^ j : Nat) : Int) ∣ s - x := fun d => q (own_RS.same j4 j5 d)
  have j1 : 1 ≤ j := by
    rcases Nat.eq_zero_or_pos j with h | h
    · subst h; exact absurd (Int.one_dvd _) nd
    · exact h
  have j2 : 2 ^ (52 + j) ≤ (s - x).natAbs := by rcases j2 with h | h; omega; exact h
  have pj := own_pos2 j
  have p1 : 2 ≤ 2 ^ j := by have := own_le2 j1; omega
  have dy : ((2 ^ j : Nat) : Int) ∣ y := hy j hj (by rw [own_32]; rw [own_52] at j2; omega)
  have ndx : ¬ ((2 ^ j : Nat) : Int) ∣ x := fun d => nd (Int.dvd_sub (h1.dvd (Int.dvd_add d dy)) d)
  obtain ⟨kx, hkx, x1, x2⟩ := hx
  have hkj : kx + 1 ≤ j := by
    apply Classical.byContradiction; intro hn
    exact ndx (Int.dvd_trans (own_dvd2 (by omega)) x1)
  have x3 : x.natAbs ≤ 2 ^ (52 + j) := Nat.le_trans x2 (own_le2 (by omega))
  obtain ⟨k, hk, k2, k3, k4, k5⟩ := id h1
  by_cases qk : j ≤ k
  · have ds : ((2 ^ j : Nat) : Int) ∣ s := Int.dvd_trans (own_dvd2 qk) k4
    refine h3.exact (Int.dvd_sub ds j4) ?_
    rw [own_53]; rw [own_52] at x3
    omega
  have qk : k + 1 ≤ j := by omega
  have l1 : 2 * 2 ^ k ≤ 2 ^ j := by have := own_le2 qk; rw [Nat.pow_succ] at this; omega
  have pk := own_pos2 k
  have et : tt = y := by
    have := own_zero (Int.dvd_sub j4 dy) (by omega)
    omega
  subst et
  have dk : ((2 ^ k : Nat) : Int) ∣ s - tt := Int.dvd_sub k4 (Int.dvd_trans (own_dvd2 (by omega)) dy)
  by_cases qj : j = k + 1
  · refine h3.exact dk ?_
    rw [own_53]
    refine own_mult dk ?_
    have e : 2 ^ j = 2 * 2 ^ k := by rw [qj, Nat.pow_succ]; omega
    rw [own_52, e] at x3
    rw [Nat.add_mul]; omega
  · exfalso
    obtain ⟨i, rfl⟩ : ∃ i, j = i + 1 := ⟨j - 1, by omega⟩
    have e : 2 ^ (i + 1) = 2 * 2 ^ i := by rw [Nat.pow_succ]; omega
    have l2 : 2 * 2 ^ k ≤ 2 ^ i := by have := own_le2 (show k + 1 ≤ i by omega); rw [Nat.pow_succ] at this; omega
    have y1 : 4503599627370496 * 2 ^ (i + 1) ≤ tt.natAbs := by
      rw [own_52] at j2
      apply Classical.byContradiction; intro hn
      have := own_mult (M := 4503599627370495) dy (by omega)
      omega
    rw [own_53] at k3
    have x4 : 2 ^ (52 + i) ≤ x.natAbs := by rw [own_52]; omega
    have dx : ((2 ^ i : Nat) : Int) ∣ x := by
      by_cases qx : i ≤ kx
      · exact Int.dvd_trans (own_dvd2 qx) x1
      · have l3 : 2 ^ (53 + kx) ≤ 2 ^ (52 + i) := own_le2 (by omega)
        rw [Int.ofNat_dvd_left, show x.natAbs = 2 ^ (52 + i) by omega]
        exact Nat.pow_dvd_pow 2 (by omega)
    have es : s = x + tt := h1.exact (Int.dvd_add dx (Int.dvd_trans (own_dvd2 (by omega)) dy)) (by rw [own_53]; omega)
    exact nd (by rw [es, show x + tt - x = tt by omega]; exact dy)
end OwnTwoSum

section OwnRound
open Jvm.FP Jvm.FP.Core
/-! the model's rounding of whole numbers below 2^64 -/
def own_R (n : Nat) : Nat := if n ≤ 2 ^ 53 then n else nearest n (2 ^ (n.log2 - 52)) * 2 ^ (n.log2 - 52)
def own_RI (i : Int) : Int := signed (decide (i < 0)) (own_R i.natAbs)
theorem own_lead (n : Nat) (h : 0 < n) : leading n 1 = (n.log2 : Int) := by
  unfold leading
  have e : Nat.log2 1 = 0 := by decide
  have l : 2 ^ n.log2 ≤ n := Nat.log2_self_le (by omega)
  simp only [e]
  rw [if_pos]
  · simp
  · simpa using l
theorem own_log {n : Nat} (h1 : ¬ n ≤ 2 ^ 53) (h2 : n < 2 ^ 64) : 53 ≤ n.log2 ∧ n.log2 ≤ 63 ∧ 2 ^ n.log2 ≤ n ∧ n < 2 ^ (n.log2 + 1) := by
  have l1 : 2 ^ n.log2 ≤ n := Nat.log2_self_le (by omega)
  have l2 : n < 2 ^ (n.log2 + 1) := Nat.lt_log2_self
  refine ⟨?_, ?_, l1, l2⟩
  · apply Classical.byContradiction; intro hn
    have := own_le2 (show n.log2 + 1 ≤ 53 by omega)
    omega
  · apply Classical.byContradiction; intro hn
    have := own_le2 (show 64 ≤ n.log2 by omega)
    omega
theorem own_whole {i : Int} (hi : i.natAbs < 2 ^ 64) {d : Datum} (h : Whole i d) : Whole (own_RI i) (round b64 d) := by
  by_cases q : i.natAbs ≤ 2 ^ 53
  · have e : own_RI i = i := by
      unfold own_RI own_R
      rw [if_pos q]; unfold signed
      by_cases h : i < 0 <;> simp [h] <;> omega
    rw [e]; exact whole_round good_b64 wide_b64 q h
  · cases d with
    | nan => exact h.elim
    | inf => exact h.elim
    | fin s c r =>
      have hi0 : i ≠ 0 := fun e => by subst e; exact q (by decide)
      have hs := whole_sign h hi0
      obtain ⟨l1, l2, l3, l4⟩ := own_log q hi
      rw [round_whole h]
      unfold own_RI own_R
      rw [if_neg q, ← hs]
      generalize hn : i.natAbs = n at *
      have n0 : n ≠ 0 := by omega
      obtain ⟨k, hk⟩ : ∃ k, n.log2 = 52 + k := ⟨n.log2 - 52, by omega⟩
      have e1 : n.log2 - 52 = k := by omega
      rw [e1]
      unfold roundRatio
      rw [if_neg n0]
      have hq : quantum b64 n 1 0 = (k : Int) := by
        unfold quantum
        rw [own_lead n (by omega), hk]
        have eq : b64.qmin = -1074 := by decide
        have ep : (b64.p : Int) = 53 := by decide
        rw [eq, ep]; omega
      have hle := nearest_units_le (f := b64) (A := n) (B := 1) (by omega) (by decide) 0
      rw [hq] at hle ⊢
      have u1 : unitsNum n 0 (k : Int) = n := by unfold unitsNum; rw [show ((0 : Int) - (k : Int)).toNat = 0 by omega]; simp
      have u2 : unitsDen 1 0 (k : Int) = 2 ^ k := by unfold unitsDen; rw [show ((k : Int) - 0).toNat = k by omega]; simp
      rw [u1, u2] at hle
      unfold roundAt
      rw [u1, u2]
      have ep : 2 ^ b64.p = 9007199254740992 := by decide
      have em : b64.qmax = 971 := by decide
      rw [ep] at hle
      unfold settle bound
      rw [ep, em]
      generalize nearest n (2 ^ k) = m at *
      by_cases qm : m < 9007199254740992
      · rw [if_pos qm, if_pos (by omega)]
        show signed s (m * 2 ^ ((k : Int)).toNat) = signed s (m * 2 ^ k) * ((2 ^ (-(k : Int)).toNat : Nat) : Int)
        rw [show (-(k : Int)).toNat = 0 by omega, show ((k : Int)).toNat = k by omega]; simp
      · have hm : m = 9007199254740992 := by omega
        rw [if_neg qm, if_pos (by omega), hm]
        have et : b64.tails = 4503599627370496 := by decide
        rw [et]
        show signed s (4503599627370496 * 2 ^ ((k : Int) + 1).toNat) = signed s (9007199254740992 * 2 ^ k) * ((2 ^ (-((k : Int) + 1)).toNat : Nat) : Int)
        rw [show (-((k : Int) + 1)).toNat = 0 by omega, show ((k : Int) + 1).toNat = k + 1 by omega, Nat.pow_succ]
        rw [show 4503599627370496 * (2 ^ k * 2) = 9007199254740992 * 2 ^ k by omega]; simp
theorem own_signed (s : Bool) (a b : Nat) : (signed s a - signed s b).natAbs = (a - b) + (b - a) := by cases s <;> simp [signed] <;> omega
theorem own_RIs {i : Int} (hi : i.natAbs < 2 ^ 64) : own_RS i (own_RI i) := by
  have ei : i = signed (decide (i < 0)) i.natAbs := by
    unfold signed
    by_cases h : i < 0 <;> simp [h] <;> omega
  by_cases q : i.natAbs ≤ 2 ^ 53
  · have e : own_RI i = i := by
      unfold own_RI own_R
      rw [if_pos q]; exact ei.symm
    rw [e]
    exact ⟨0, by decide, Or.inl rfl, q, Int.one_dvd _, by simp⟩
  · obtain ⟨l1, l2, l3, l4⟩ := own_log q hi
    obtain ⟨k, hk⟩ : ∃ k, i.natAbs.log2 = 52 + k := ⟨i.natAbs.log2 - 52, by omega⟩
    have e1 : i.natAbs.log2 - 52 = k := by omega
    rw [hk] at l3 l4
    have sp := nearest_spec i.natAbs (2 ^ k) (own_pos2 k)
    refine ⟨k, by omega, Or.inr l3, Nat.le_of_lt (by rw [show 53 + k = 52 + k + 1 by omega]; exact l4), ?_, ?_⟩
    · unfold own_RI own_R
      rw [if_neg q, e1, Int.ofNat_dvd_left, natAbs_signed]
      exact Nat.dvd_mul_left _ _
    · conv => lhs; rw [ei]
      unfold own_RI own_R
      rw [if_neg (by rw [natAbs_signed]; exact q)]
      have es : (decide (signed (decide (i < 0)) i.natAbs < 0)) = decide (i < 0) := by rw [← ei]
      rw [es, natAbs_signed, e1, own_signed]
      obtain ⟨s1, s2, -⟩ := sp
      generalize nearest i.natAbs (2 ^ k) = m at *
      rw [Nat.add_mul, Nat.one_mul, Nat.mul_assoc] at s1
      rw [Nat.mul_assoc] at s2
      omega
/-! on doubles -/
theorem own_dadd {i j : Int} {a b : UInt64} (ha : DInt i a) (hb : DInt j b) (h : (i + j).natAbs < 2 ^ 64) : DInt (own_RI (i + j)) (FP.dadd a b) := by
  unfold DInt; rw [show FP.dadd a b = Core.dadd a b from rfl, val64_dadd]; exact own_whole h (whole_sum ha hb)
theorem own_dsub {i j : Int} {a b : UInt64} (ha : DInt i a) (hb : DInt j b) (h : (i - j).natAbs < 2 ^ 64) : DInt (own_RI (i - j)) (FP.dsub a b) := by
  unfold DInt; rw [show FP.dsub a b = Core.dsub a b from rfl, val64_dsub]; exact own_whole h (whole_sum ha (whole_negate hb))
theorem own_l2d (a : Int64) : DInt (own_RI a.toInt) (FP.l2d a) := by
  unfold DInt; rw [show FP.l2d a = Core.l2d a from rfl, val64_l2d]
  have h1 := a.toInt_lt
  have h2 := a.le_toInt
  exact own_whole (by omega) (whole_ofInt _)
/-- one compensated step -/
theorem own_step {x y t : Int} {a b c : UInt64} (ha : DInt x a) (hb : DInt y b) (hc : DInt t c) (hx : own_Rep x) (hy : own_Few y) (h1 : (x + y).natAbs < 2 ^ 64) (h2 : y.natAbs ≤ 2 ^ 61) (hx2 : x.natAbs < 2 ^ 63 + 2 ^ 20) (ht : t.natAbs ≤ 2 ^ 20) :
    ∃ s : Int, own_RS (x + y) s ∧ DInt s (FP.dadd a b) ∧
      DInt (t + (x + y - s)) (FP.dadd c (FP.dadd (FP.dsub a (FP.dsub (FP.dadd a b) (FP.dsub (FP.dadd a b) a))) (FP.dsub b (FP.dsub (FP.dadd a b) a)))) := by
  have r1 := own_RIs h1
  have d1 := own_dadd ha hb h1
  generalize own_RI (x + y) = s at r1 d1
  generalize FP.dadd a b = n at d1 ⊢
  have n1 := r1.near
  have d2 := own_dsub d1 ha (by omega)
  have r2 := own_RIs (i := s - x) (by omega)
  generalize own_RI (s - x) = tt at r2 d2
  generalize FP.dsub n a = m at d2 ⊢
  have n2 := r2.near
  have d3 := own_dsub d1 d2 (by omega)
  have r3 := own_RIs (i := s - tt) (by omega)
  have e3 := own_twosum hx hy r1 r2 r3
  rw [e3] at d3
  have d4 := dsub_int ha d3 (by omega)
  have d5 := dsub_int hb d2 (by omega)
  have d6 := dadd_int d4 d5 (by omega)
  have d7 := dadd_int hc d6 (by omega)
  refine ⟨s, r1, d1, ?_⟩
  rw [show t + (x + y - s) = t + (x - (s - tt) + (y - tt)) by omega]
  exact d7
end OwnRound

section OwnD
open Jvm.FP.Core
variable {p : Program} {l : Launch} {e : Env} {R : Room} {s : State} {m : MethodId} {args : Array Value} {below : List Frame} {meth : Method} {c : Code} {T : State} {locs : List Loc} {cells slots : Nat} {h : Heap} {pc : Nat} {Ls : Array Slot} {rest : List Value} {Qh : Option Value → Heap → List Loc → Prop} {C S : Nat}
theorem own_retD (X : Stand p l e R s m args below meth c T locs cells slots) (hx : p.tables.exec = Jvm.exec) (hlk : meth.locks = false) (eT : T.heap = h) (hret : meth.sig.returnType = some .double) {z : UInt64} (hd : decode c.code pc = .ok (.dreturn, 1))
    (hq : Qh (some (.double z)) h locs) (hC : cells ≤ C) (hS : slots ≤ S) : own_Go p.tables e below (own_Q s Qh C S) (T.setTop (mkF m pc Ls (.double z :: rest))) :=
  own_leave X hlk (v := some (.double z)) (fun q => by rw [hret] at q; cases q) (fun fs hr => retOut X hx hret rfl (Or.inr (Or.inr (Or.inl ⟨rfl, rfl, z, rfl⟩))) hd hr) (eT ▸ hq) hC hS
theorem own_nn {i : Int} {a : UInt64} (h : DInt i a) : Jvm.Free.Fl.NoNaN64 a := Jvm.Free.Fl.val64_no.mpr h.ne_nan
theorem own_cmp {i : Int} {x y : UInt64} (hx : DInt i x) (hy : DInt i y) : cmpValue (FP.dcmp x y) .l = 0 := by
  rw [show FP.dcmp x y = some (compare i i) from dcmp_int hx hy, show compare i i = Ordering.eq by simp [compare, compareOfLessAndEq]]; rfl
theorem own_d0 : DInt 0 (0 : UInt64) := by
  have q : val64 (0 : UInt64) = .fin false 0 b64.qmin := val64_dconst0
  unfold DInt; rw [q]; show signed false (0 * _) = 0 * _; simp [signed]
theorem own_rep0 : own_Rep 0 := ⟨0, by decide, Int.one_dvd _, by simp⟩
theorem own_shft (z : Int64) : 0 ≤ (((z &&& (31 : Int64)).toInt32 % (31 : Int32)).toInt) ∧ ((z &&& (31 : Int64)).toInt32 % (31 : Int32)).toInt ≤ 30 := by
  have hb : (z &&& (31 : Int64)).toBitVec.toNat ≤ 31 := by
    rw [Int64.toBitVec_and, BitVec.toNat_and]; exact Nat.and_le_right
  have h1 : (z &&& (31 : Int64)).toInt = ((z &&& (31 : Int64)).toBitVec.toNat : Int) := by
    show (z &&& (31 : Int64)).toBitVec.toInt = _
    rw [BitVec.toInt_eq_toNat_cond, if_pos (by omega)]
  have h2 := c_l2i (z &&& 31)
  have r := rng32 (z &&& 31).toInt32
  have l : (31 : Int32).toInt = 31 := by decide
  have h3 := (c_irem (z &&& 31).toInt32 31 31 l).1 (by omega)
  omega
theorem own_pk {a r : Int32} {v : Int64} (h0 : 0 ≤ r.toInt) (h1 : r.toInt ≤ 30) (hv : (a.toInt64 <<< (r &&& 0x3f).toInt64) = v) : own_Few v.toInt ∧ own_RI v.toInt = v.toInt ∧ (-2305843009213693952 ≤ v.toInt ∧ v.toInt ≤ 2305843008139952128) := by
  obtain ⟨n, hn⟩ : ∃ n : Nat, r.toInt = (n : Int) := ⟨r.toInt.toNat, by omega⟩
  have hk : r.toBitVec.toNat % 64 = n := by
    have q : r.toBitVec.toInt = (n : Int) := hn
    rw [BitVec.toInt_eq_toNat_cond] at q
    split at q <;> have := r.toBitVec.isLt <;> omega
  have c := c_lshl a.toInt64 r n hk
  rw [hv, Int32.toInt_toInt64] at c
  have ra := rng32 a
  have hn30 : n ≤ 30 := by omega
  have l1 : a.toInt.natAbs * 2 ^ n ≤ 2147483648 * 2 ^ n := Nat.mul_le_mul_right _ (by omega)
  have l2 : 2147483648 * 2 ^ n ≤ 2147483648 * 2 ^ 30 := Nat.mul_le_mul_left _ (own_le2 hn30)
  have e30 : 2147483648 * 2 ^ 30 = 2305843009213693952 := by decide
  have em : (a.toInt * ((2 ^ n : Nat) : Int)).natAbs = a.toInt.natAbs * 2 ^ n := by rw [Int.natAbs_mul, Int.natAbs_natCast]
  have rv1 := v.toInt_lt
  have rv2 := v.le_toInt
  have ev : v.toInt = a.toInt * ((2 ^ n : Nat) : Int) := by
    generalize a.toInt * ((2 ^ n : Nat) : Int) = w at c em ⊢
    omega
  have bv : v.toInt.natAbs ≤ 2305843009213693952 := by rw [ev]; omega
  have dv : ∀ j, j ≤ n → ((2 ^ j : Nat) : Int) ∣ v.toInt := fun j hj => by rw [ev]; exact Int.dvd_trans (own_dvd2 hj) (Int.dvd_mul_left _ _)
  have up : v.toInt ≤ 2305843008139952128 := by
    have q1 : a.toInt * ((2 ^ n : Nat) : Int) ≤ 2147483647 * ((2 ^ n : Nat) : Int) := Int.mul_le_mul_of_nonneg_right (by omega) (Int.natCast_nonneg _)
    have q2 := own_le2 hn30
    have e3 : 2 ^ 30 = 1073741824 := by decide
    rw [← ev] at q1
    generalize 2 ^ n = P at q1 q2
    omega
  refine ⟨fun j hj hb => ?_, ?_, by omega, up⟩
  · by_cases q : j ≤ n
    · exact dv j q
    · exfalso
      have l3 : 2 * 2 ^ n ≤ 2 ^ j := by have := own_le2 (show n + 1 ≤ j by omega); rw [Nat.pow_succ] at this; omega
      rw [own_32, ev, em] at hb
      have pn := own_pos2 n
      omega
  · have rs := own_RIs (i := v.toInt) (by omega)
    by_cases q : n ≤ 11
    · exact rs.exact (dv n (Nat.le_refl _)) (by rw [own_53, ev, em]; omega)
    · exact rs.exact (dv 11 (by omega)) (by rw [own_53]; omega)
theorem own_near2 {v r : Int} (h : own_RS v r) : -1024 ≤ r - v ∧ r - v ≤ 1024 := by have := h.near; omega
theorem own_ladd {a b v : Int64} (h : a + b = v) (h1 : (a.toInt + b.toInt) < 9223372036854775808) (h2 : -9223372036854775808 ≤ a.toInt + b.toInt) : v.toInt = a.toInt + b.toInt := by
  have c := c_ladd a b
  rw [h] at c
  have rv1 := v.toInt_lt
  have rv2 := v.le_toInt
  omega
theorem own_step2 {x y t : Int} {a b c : UInt64} (ha : DInt x a) (hb : DInt y b) (hc : DInt t c) (hx : own_Rep x) (hy : own_Few y) (h1 : (x + y).natAbs < 18446744073709551616) (h2 : y.natAbs ≤ 2305843009213693952) (hx2 : x.natAbs < 9223372036855824384) (ht : t.natAbs ≤ 1048576) :
    (∃ s : Int, own_RS (x + y) s ∧ DInt s (FP.dadd a b) ∧ DInt (t + (x + y - s)) (FP.dadd c (FP.dadd (FP.dsub a (FP.dsub (FP.dadd a b) (FP.dsub (FP.dadd a b) a))) (FP.dsub b (FP.dsub (FP.dadd a b) a))))) ∧
    Jvm.Free.Fl.NoNaN64 (FP.dadd a b) ∧ Jvm.Free.Fl.NoNaN64 (FP.dsub (FP.dadd a b) a) ∧ Jvm.Free.Fl.NoNaN64 (FP.dsub (FP.dadd a b) (FP.dsub (FP.dadd a b) a)) ∧ Jvm.Free.Fl.NoNaN64 (FP.dsub a (FP.dsub (FP.dadd a b) (FP.dsub (FP.dadd a b) a))) ∧
    Jvm.Free.Fl.NoNaN64 (FP.dsub b (FP.dsub (FP.dadd a b) a)) ∧ Jvm.Free.Fl.NoNaN64 (FP.dadd (FP.dsub a (FP.dsub (FP.dadd a b) (FP.dsub (FP.dadd a b) a))) (FP.dsub b (FP.dsub (FP.dadd a b) a))) ∧
    Jvm.Free.Fl.NoNaN64 (FP.dadd c (FP.dadd (FP.dsub a (FP.dsub (FP.dadd a b) (FP.dsub (FP.dadd a b) a))) (FP.dsub b (FP.dsub (FP.dadd a b) a)))) := by
  have r1 := own_RIs (i := x + y) h1
  have d1 := own_dadd ha hb h1
  generalize own_RI (x + y) = s at r1 d1
  generalize FP.dadd a b = n at d1 ⊢
  have n1 := r1.near
  have d2 := own_dsub d1 ha (by omega)
  have r2 := own_RIs (i := s - x) (by omega)
  generalize own_RI (s - x) = tt at r2 d2
  generalize FP.dsub n a = m at d2 ⊢
  have n2 := r2.near
  have d3 := own_dsub d1 d2 (by omega)
  have r3 := own_RIs (i := s - tt) (by omega)
  have e3 := own_twosum hx hy r1 r2 r3
  rw [e3] at d3
  have d4 := dsub_int ha d3 (by omega)
  have d5 := dsub_int hb d2 (by omega)
  have d6 := dadd_int d4 d5 (by omega)
  have d7 := dadd_int hc d6 (by omega)
  refine ⟨⟨s, r1, d1, ?_⟩, own_nn d1, own_nn d2, own_nn d3, own_nn d4, own_nn d5, own_nn d6, own_nn d7⟩
  rw [show t + (x + y - s) = t + (x - (s - tt) + (y - tt)) by omega]
  exact d7
end OwnD
theorem pn_0 : plainName "com/example/link_prestige/linkprestige/CompensatedSumAddPinLaw" = true := by first | (simp [plainName, overriddenIn]; done) | decide +kernel
theorem d1_0 : decode method_3_code 0 = .ok (.lload_n 0, 1) := by decide +kernel
theorem d1_1 : decode method_3_code 1 = .ok (.iconst 5, 1) := by decide +kernel
theorem d1_2 : decode method_3_code 2 = .ok (.iload_n 2, 1) := by decide +kernel
theorem d1_3 : decode method_3_code 3 = .ok (.imul, 1) := by decide +kernel
theorem d1_4 : decode method_3_code 4 = .ok (.lushr, 1) := by decide +kernel
theorem d1_5 : decode method_3_code 5 = .ok (.ldc2_w 24, 3) := by decide +kernel
theorem d1_8 : decode method_3_code 8 = .ok (.land, 1) := by decide +kernel
theorem d1_9 : decode method_3_code 9 = .ok (.l2i, 1) := by decide +kernel
theorem d1_10 : decode method_3_code 10 = .ok (.bipush 31, 2) := by decide +kernel
theorem d1_12 : decode method_3_code 12 = .ok (.irem, 1) := by decide +kernel
theorem d1_13 : decode method_3_code 13 = .ok (.ireturn, 1) := by decide +kernel
theorem pn_1 : plainName "com/example/link_prestige/linkprestige/CompensatedSumAddPinLaw" = true := by first | (simp [plainName, overriddenIn]; done) | decide +kernel
theorem d2_0 : decode prog_9_method_1_code 0 = .ok (.aload_n 0, 1) := by decide +kernel
theorem d2_1 : decode prog_9_method_1_code 1 = .ok (.invokespecial 1, 3) := by decide +kernel
theorem d2_4 : decode prog_9_method_1_code 4 = .ok (.return_, 1) := by decide +kernel
theorem pn_2 : plainName "com/example/link_prestige/linkprestige/CompensatedSum" = true := by first | (simp [plainName, overriddenIn]; done) | decide +kernel
theorem d4_0 : decode prog_9_method_2_code 0 = .ok (.aload_n 0, 1) := by decide +kernel
theorem d4_1 : decode prog_9_method_2_code 1 = .ok (.getfield 7, 3) := by decide +kernel
theorem d4_4 : decode prog_9_method_2_code 4 = .ok (.dload_n 1, 1) := by decide +kernel
theorem d4_5 : decode prog_9_method_2_code 5 = .ok (.dadd, 1) := by decide +kernel
theorem d4_6 : decode prog_9_method_2_code 6 = .ok (.dstore_n 3, 1) := by decide +kernel
theorem d4_7 : decode prog_9_method_2_code 7 = .ok (.dload_n 3, 1) := by decide +kernel
theorem d4_8 : decode prog_9_method_2_code 8 = .ok (.aload_n 0, 1) := by decide +kernel
theorem d4_9 : decode prog_9_method_2_code 9 = .ok (.getfield 7, 3) := by decide +kernel
theorem d4_12 : decode prog_9_method_2_code 12 = .ok (.dsub, 1) := by decide +kernel
theorem d4_13 : decode prog_9_method_2_code 13 = .ok (.dstore 5, 2) := by decide +kernel
theorem d4_15 : decode prog_9_method_2_code 15 = .ok (.aload_n 0, 1) := by decide +kernel
theorem d4_16 : decode prog_9_method_2_code 16 = .ok (.dup, 1) := by decide +kernel
theorem d4_17 : decode prog_9_method_2_code 17 = .ok (.getfield 13, 3) := by decide +kernel
theorem d4_20 : decode prog_9_method_2_code 20 = .ok (.aload_n 0, 1) := by decide +kernel
theorem d4_21 : decode prog_9_method_2_code 21 = .ok (.getfield 7, 3) := by decide +kernel
theorem d4_24 : decode prog_9_method_2_code 24 = .ok (.dload_n 3, 1) := by decide +kernel
theorem d4_25 : decode prog_9_method_2_code 25 = .ok (.dload 5, 2) := by decide +kernel
theorem d4_27 : decode prog_9_method_2_code 27 = .ok (.dsub, 1) := by decide +kernel
theorem d4_28 : decode prog_9_method_2_code 28 = .ok (.dsub, 1) := by decide +kernel
theorem d4_29 : decode prog_9_method_2_code 29 = .ok (.dload_n 1, 1) := by decide +kernel
theorem d4_30 : decode prog_9_method_2_code 30 = .ok (.dload 5, 2) := by decide +kernel
theorem d4_32 : decode prog_9_method_2_code 32 = .ok (.dsub, 1) := by decide +kernel
theorem d4_33 : decode prog_9_method_2_code 33 = .ok (.dadd, 1) := by decide +kernel
theorem d4_34 : decode prog_9_method_2_code 34 = .ok (.dadd, 1) := by decide +kernel
theorem d4_35 : decode prog_9_method_2_code 35 = .ok (.putfield 13, 3) := by decide +kernel
theorem d4_38 : decode prog_9_method_2_code 38 = .ok (.aload_n 0, 1) := by decide +kernel
theorem d4_39 : decode prog_9_method_2_code 39 = .ok (.dload_n 3, 1) := by decide +kernel
theorem d4_40 : decode prog_9_method_2_code 40 = .ok (.putfield 7, 3) := by decide +kernel
theorem d4_43 : decode prog_9_method_2_code 43 = .ok (.return_, 1) := by decide +kernel
theorem pn_4 : plainName "com/example/link_prestige/linkprestige/CompensatedSum" = true := by first | (simp [plainName, overriddenIn]; done) | decide +kernel
theorem d5_0 : decode prog_9_method_3_code 0 = .ok (.aload_n 0, 1) := by decide +kernel
theorem d5_1 : decode prog_9_method_3_code 1 = .ok (.getfield 7, 3) := by decide +kernel
theorem d5_4 : decode prog_9_method_3_code 4 = .ok (.aload_n 0, 1) := by decide +kernel
theorem d5_5 : decode prog_9_method_3_code 5 = .ok (.getfield 13, 3) := by decide +kernel
theorem d5_8 : decode prog_9_method_3_code 8 = .ok (.dadd, 1) := by decide +kernel
theorem d5_9 : decode prog_9_method_3_code 9 = .ok (.dreturn, 1) := by decide +kernel
theorem pn_5 : plainName "com/example/link_prestige/linkprestige/CompensatedSum" = true := by first | (simp [plainName, overriddenIn]; done) | decide +kernel
set_option maxRecDepth 65536 in
set_option maxHeartbeats 40000000 in
theorem rm1 (l : Launch) (Z : State) (a0 : Array Value) (hw : ∀ d ∈ tables_1, d.before a0 Z = true) (ws : List Jvm.Cond) (p1 : Int64) (p2 : Int32)  (h0 : Heap) (n0 : Nat) (Z0 : n0 ≤ h0.size) :
    MetFree l (⟨"com/example/link_prestige/linkprestige/CompensatedSumAddPinLaw", "shift", "(JI)I"⟩ : MethodName) (head1 (Jvm.Cond.code (⟨"com/example/link_prestige/linkprestige/CompensatedSumAddPinLaw", "shift", "(JI)I"⟩ : MethodName) method_3_code 3 (some .int) :: ws) ({ frames := 0, cells := 0, slots := 0, locals := 0 } : Room)) (fun a U => a = #[(.long p1), (.int p2)] ∧ Z.Warmed39 U.vm ∧ U.heap = h0) (fun _ _ _ _ _ => True) (fun _ U o U' => ∃ vv LL, o = .returned vv ∧ own_ap (fun v h L => ∃ r : Int32, v = some (.int r) ∧ Fr n0 L ∧ h = h0 ∧ 0 ≤ r.toInt ∧ r.toInt ≤ 30) vv U'.heap LL ∧ FrameEnd U o U' LL 0 0) := by
  refine MetFree.of_bodySF (plainFor_of_name pn_1) hisR ?_
  intro p e s m args below meth c s₁ Bd hml0 hP hK
  obtain ⟨rfl, hZ, hh⟩ := hP
  have hx := Bd.exec
  have hby := Bd.bytes
  have hml : c.maxLocals = 3 := hml0
  have hown : s.vm.findClass "com/example/link_prestige/linkprestige/CompensatedSumAddPinLaw" = some m.cls := findClass_of_methodNamed Bd.named
  have hnm := (name_of_methodNamed Bd.named Bd.method).1
  have X0 : Stand p l e ({ frames := 0, cells := 0, slots := 0, locals := 0 } : Room) s m #[(.long p1), (.int p2)] below meth c s₁ [] 0 0 := Stand.of_body Bd
  have e0 : s₁.heap = h0 := by rw [← hh, Bd.state]; rfl
  have N0 := Fr.nil n0
  show own_Go p.tables e below (own_Q s (fun v h L => ∃ r : Int32, v = some (.int r) ∧ Fr n0 L ∧ h = h0 ∧ 0 ≤ r.toInt ∧ r.toInt ≤ 30) 0 0) (s₁.setTop (entryFrame m #[(.long p1), (.int p2)] 3))
  rw [show entryFrame m #[(.long p1), (.int p2)] 3 = mkF m 0 #[.val (.long p1), .second, .val (.int p2)] [] from by first | (simp [entryFrame, mkF, argsToLocals, Value.category]; done) | rfl]
  show own_Go _ _ _ _ (s₁.setTop (mkF m 0 #[.val (.long p1), .second, .val (.int p2)] []))
  refine own_by (fun _ k => XS.lloadN X0.here hx rfl (hb hby d1_0) rfl k) ?_
  refine own_by (fun _ k => XS.iconst X0.here hx rfl (hb hby d1_1) k) ?_
  refine own_by (fun _ k => XS.iloadN X0.here hx rfl (hb hby d1_2) rfl k) ?_
  show own_Go _ _ _ _ (s₁.setTop (mkF m 3 #[.val (.long p1), .second, .val (.int p2)] [(.int p2), (.int (5 : Int32)), (.long p1)]))
  refine own_by (fun _ k => XS.imul X0.here hx rfl (hb hby d1_3) rfl k) ?_
  show own_Go _ _ _ _ (s₁.setTop (mkF m 4 #[.val (.long p1), .second, .val (.int p2)] [(.int ((5 : Int32) * p2)), (.long p1)]))
  refine own_by (fun _ k => XS.lushr X0.here hx rfl (hb hby d1_4) rfl k) ?_
  show own_Go _ _ _ _ (s₁.setTop (mkF m 5 #[.val (.long p1), .second, .val (.int p2)] [(.long ((p1.toUInt64 >>> (((5 : Int32) * p2) &&& 0x3f).toInt64.toUInt64).toInt64))]))
  refine own_by (fun _ k => X0.ldc2Long hx hown (mvT hZ (hw _ (List.mem_of_getElem? (i := 4) rfl))) (g := (mkF m 5 #[.val (.long p1), .second, .val (.int p2)] [(.long ((p1.toUInt64 >>> (((5 : Int32) * p2) &&& 0x3f).toInt64.toUInt64).toInt64))])) rfl (hb hby d1_5) _ k) ?_
  show own_Go _ _ _ _ (s₁.setTop (mkF m 8 #[.val (.long p1), .second, .val (.int p2)] [(.long (31 : Int64)), (.long ((p1.toUInt64 >>> (((5 : Int32) * p2) &&& 0x3f).toInt64.toUInt64).toInt64))]))
  refine own_by (fun _ k => XS.land X0.here hx rfl (hb hby d1_8) rfl k) ?_
  show own_Go _ _ _ _ (s₁.setTop (mkF m 9 #[.val (.long p1), .second, .val (.int p2)] [(.long (((p1.toUInt64 >>> (((5 : Int32) * p2) &&& 0x3f).toInt64.toUInt64).toInt64) &&& (31 : Int64)))]))
  refine own_by (fun _ k => XS.l2i X0.here hx rfl (hb hby d1_9) rfl k) ?_
  refine own_by (fun _ k => XS.bipush X0.here hx rfl (hb hby d1_10) k) ?_
  show own_Go _ _ _ _ (s₁.setTop (mkF m 12 #[.val (.long p1), .second, .val (.int p2)] [(.int (31 : Int32)), (.int ((((p1.toUInt64 >>> (((5 : Int32) * p2) &&& 0x3f).toInt64.toUInt64).toInt64) &&& (31 : Int64)).toInt32))]))
  refine own_by (fun _ k => iremM X0 hx rfl (hb hby d1_12) rfl (by decide) k) ?_
  show own_Go _ _ _ _ (s₁.setTop (mkF m 13 #[.val (.long p1), .second, .val (.int p2)] [(.int (((((p1.toUInt64 >>> (((5 : Int32) * p2) &&& 0x3f).toInt64.toUInt64).toInt64) &&& (31 : Int64)).toInt32) % (31 : Int32)))]))
  exact own_retI X0 hx Bd.notSynchronized e0 Bd.returns (hb hby d1_13) (⟨_, rfl, N0, rfl, own_shft _⟩) (by decide) (by decide)
set_option maxRecDepth 65536 in
set_option maxHeartbeats 40000000 in
theorem rm2 (l : Launch) (Z : State) (a0 : Array Value) (hw : ∀ d ∈ tables_1, d.before a0 Z = true) (ws : List Jvm.Cond) (a1 : Addr)  (h0 : Heap) (n0 : Nat) (Z0 : n0 ≤ h0.size) :
    MetFree l (⟨"com/example/link_prestige/linkprestige/CompensatedSum", "<init>", "()V"⟩ : MethodName) (head1 (Jvm.Cond.code (⟨"com/example/link_prestige/linkprestige/CompensatedSum", "<init>", "()V"⟩ : MethodName) prog_9_method_1_code 1 none :: ws) ({ frames := 1, cells := 0, slots := 0, locals := 12 } : Room)) (fun a U => a = #[(.ref a1)] ∧ Z.Warmed39 U.vm ∧ U.heap = h0) (fun _ _ _ _ _ => True) (fun _ U o U' => ∃ vv LL, o = .returned vv ∧ own_ap (fun v h L => v = none ∧ Fr n0 L ∧ h = h0) vv U'.heap LL ∧ FrameEnd U o U' LL 0 0) := by
  refine MetFree.of_bodySF (plainFor_of_name pn_2) hisR ?_
  intro p e s m args below meth c s₁ Bd hml0 hP hK
  obtain ⟨rfl, hZ, hh⟩ := hP
  have hx := Bd.exec
  have hby := Bd.bytes
  have hml : c.maxLocals = 1 := hml0
  have hown : s.vm.findClass "com/example/link_prestige/linkprestige/CompensatedSum" = some m.cls := findClass_of_methodNamed Bd.named
  have hnm := (name_of_methodNamed Bd.named Bd.method).1
  have X0 : Stand p l e ({ frames := 1, cells := 0, slots := 0, locals := 12 } : Room) s m #[(.ref a1)] below meth c s₁ [] 0 0 := Stand.of_body Bd
  have e0 : s₁.heap = h0 := by rw [← hh, Bd.state]; rfl
  have N0 := Fr.nil n0
  show own_Go p.tables e below (own_Q s (fun v h L => v = none ∧ Fr n0 L ∧ h = h0) 0 0) (s₁.setTop (entryFrame m #[(.ref a1)] 1))
  rw [show entryFrame m #[(.ref a1)] 1 = mkF m 0 #[.val (.ref a1)] [] from by first | (simp [entryFrame, mkF, argsToLocals, Value.category]; done) | rfl]
  show own_Go _ _ _ _ (s₁.setTop (mkF m 0 #[.val (.ref a1)] []))
  refine own_by (fun _ k => XS.aloadN X0.here hx rfl (hb hby d2_0) rfl rfl k) ?_
  show own_Go _ _ _ _ (s₁.setTop (mkF m 1 #[.val (.ref a1)] [(.ref a1)]))
  obtain ⟨T1, X1, e1, st1⟩ := initO X0 hx hZ hown (hw _ (List.mem_of_getElem? (i := 11) rfl)) (hw _ (List.mem_of_getElem? (i := 12) rfl)) (hw _ (List.mem_of_getElem? (i := 13) rfl)) e0 (g := (mkF m 1 #[.val (.ref a1)] [(.ref a1)])) rfl (by rw [hml]; rfl) rfl (hb hby d2_1) (by decide) (W := 0) (by show 2 * 0 + _ ≤ _; exact Nat.le_of_eq rfl) (by decide)
  refine own_by st1 ?_
  show own_Go _ _ _ _ (T1.setTop (mkF m 4 #[.val (.ref a1)] []))
  exact own_retV X1 hx Bd.notSynchronized e1 Bd.returns (hb hby d2_4) (⟨rfl, N0, rfl⟩) (by decide) (by decide)
set_option maxRecDepth 65536 in
set_option maxHeartbeats 40000000 in
theorem rm4 (l : Launch) (Z : State) (a0 : Array Value) (hw : ∀ d ∈ tables_1, d.before a0 Z = true) (ws : List Jvm.Cond) (a1 : Addr) (d1 : UInt64) (a c9 : UInt64) (x y t : Int) (h0 : Heap) (n0 : Nat) (Z0 : n0 ≤ h0.size) (PE : Exa Z h0 a1 "com/example/link_prestige/linkprestige/CompensatedSum") (PFs : Fld Z h0 a1 "com/example/link_prestige/linkprestige/CompensatedSum" "sum" "D" (.double a)) (PFl : Fld Z h0 a1 "com/example/link_prestige/linkprestige/CompensatedSum" "lost" "D" (.double c9)) (Pa : n0 ≤ a1) (Ha : Jvm.FP.Core.DInt x a) (Hb : Jvm.FP.Core.DInt y d1) (Hc : Jvm.FP.Core.DInt t c9) (Hx : own_Rep x) (Hy : own_Few y) (H1 : -18446744073709551616 < x + y ∧ x + y < 18446744073709551616) (H2 : -2305843009213693952 ≤ y ∧ y ≤ 2305843008139952128) (H3 : -9223372036855824384 < x ∧ x < 9223372036855824384) (H4 : -1048576 ≤ t ∧ t ≤ 1048576) :
    MetFree l (⟨"com/example/link_prestige/linkprestige/CompensatedSum", "add", "(D)V"⟩ : MethodName) (head1 (Jvm.Cond.code (⟨"com/example/link_prestige/linkprestige/CompensatedSum", "add", "(D)V"⟩ : MethodName) prog_9_method_2_code 7 none :: ws) ({ frames := 0, cells := 0, slots := 0, locals := 0 } : Room)) (fun a U => a = #[(.ref a1), (.double d1)] ∧ Z.Warmed39 U.vm ∧ U.heap = h0) (fun _ _ _ _ _ => True) (fun _ U o U' => ∃ vv LL, o = .returned vv ∧ own_ap (fun v h L => v = none ∧ Fr n0 L ∧ Keep h0 h [a1] ∧ ∃ (s2 : Int) (a2 c2 : UInt64), own_RS (x + y) s2 ∧ Fld Z h a1 "com/example/link_prestige/linkprestige/CompensatedSum" "sum" "D" (.double a2) ∧ Fld Z h a1 "com/example/link_prestige/linkprestige/CompensatedSum" "lost" "D" (.double c2) ∧ Jvm.FP.Core.DInt s2 a2 ∧ Jvm.FP.Core.DInt (t + (x + y - s2)) c2) vv U'.heap LL ∧ FrameEnd U o U' LL 0 0) := by
  refine MetFree.of_bodySF (plainFor_of_name pn_4) hisR ?_
  intro p e s m args below meth c s₁ Bd hml0 hP hK
  obtain ⟨rfl, hZ, hh⟩ := hP
  have hx := Bd.exec
  have hby := Bd.bytes
  have hml : c.maxLocals = 7 := hml0
  have hown : s.vm.findClass "com/example/link_prestige/linkprestige/CompensatedSum" = some m.cls := findClass_of_methodNamed Bd.named
  have hnm := (name_of_methodNamed Bd.named Bd.method).1
  have X0 : Stand p l e ({ frames := 0, cells := 0, slots := 0, locals := 0 } : Room) s m #[(.ref a1), (.double d1)] below meth c s₁ [] 0 0 := Stand.of_body Bd
  have e0 : s₁.heap = h0 := by rw [← hh, Bd.state]; rfl
  have N0 := Fr.nil n0
  show own_Go p.tables e below (own_Q s (fun v h L => v = none ∧ Fr n0 L ∧ Keep h0 h [a1] ∧ ∃ (s2 : Int) (a2 c2 : UInt64), own_RS (x + y) s2 ∧ Fld Z h a1 "com/example/link_prestige/linkprestige/CompensatedSum" "sum" "D" (.double a2) ∧ Fld Z h a1 "com/example/link_prestige/linkprestige/CompensatedSum" "lost" "D" (.double c2) ∧ Jvm.FP.Core.DInt s2 a2 ∧ Jvm.FP.Core.DInt (t + (x + y - s2)) c2) 0 0) (s₁.setTop (entryFrame m #[(.ref a1), (.double d1)] 7))
  rw [show entryFrame m #[(.ref a1), (.double d1)] 7 = mkF m 0 #[.val (.ref a1), .val (.double d1), .second, .unset, .unset, .unset, .unset] [] from by first | (simp [entryFrame, mkF, argsToLocals, Value.category]; done) | rfl]
  obtain ⟨⟨sq, rq, dq, tq⟩, qn1, qn2, qn3, qn4, qn5, qn6, qn7⟩ := own_step2 Ha Hb Hc Hx Hy (by clear H2 H3 H4; omega) (by clear H1 H3 H4; omega) (by clear H1 H2 H4; omega) (by clear H1 H2 H3; omega)
  show own_Go _ _ _ _ (s₁.setTop (mkF m 0 #[.val (.ref a1), .val (.double d1), .second, .unset, .unset, .unset, .unset] []))
  refine own_by (fun _ k => XS.aloadN X0.here hx rfl (hb hby d4_0) rfl rfl k) ?_
  show own_Go _ _ _ _ (s₁.setTop (mkF m 1 #[.val (.ref a1), .val (.double d1), .second, .unset, .unset, .unset, .unset] [(.ref a1)]))
  obtain ⟨T1, X1, e1, st1⟩ := getF X0 hx hZ hown (host := "") (Or.inl (hw _ (List.mem_of_getElem? (i := 19) rfl))) Via.refl e0 PFs (g := (mkF m 1 #[.val (.ref a1), .val (.double d1), .second, .unset, .unset, .unset, .unset] [(.ref a1)])) rfl rfl (hb hby d4_1)
  refine own_by st1 ?_
  show own_Go _ _ _ _ (T1.setTop (mkF m 4 #[.val (.ref a1), .val (.double d1), .second, .unset, .unset, .unset, .unset] [(.double a)]))
  refine own_by (fun _ k => XS.dloadN X1.here hx rfl (hb hby d4_4) rfl k) ?_
  show own_Go _ _ _ _ (T1.setTop (mkF m 5 #[.val (.ref a1), .val (.double d1), .second, .unset, .unset, .unset, .unset] [(.double d1), (.double a)]))
  refine own_by (fun _ k => XS.daddS X1.here hx rfl (hb hby d4_5) rfl qn1 rfl k) ?_
  show own_Go _ _ _ _ (T1.setTop (mkF m 6 #[.val (.ref a1), .val (.double d1), .second, .unset, .unset, .unset, .unset] [(.double (FP.dadd a d1))]))
  refine own_by (fun _ k => XS.dstoreN X1.here hx rfl (hb hby d4_6) rfl (l' := #[.val (.ref a1), .val (.double d1), .second, .val (.double (FP.dadd a d1)), .second, .unset, .unset]) rfl k) ?_
  show own_Go _ _ _ _ (T1.setTop (mkF m 7 #[.val (.ref a1), .val (.double d1), .second, .val (.double (FP.dadd a d1)), .second, .unset, .unset] []))
  refine own_by (fun _ k => XS.dloadN X1.here hx rfl (hb hby d4_7) rfl k) ?_
  refine own_by (fun _ k => XS.aloadN X1.here hx rfl (hb hby d4_8) rfl rfl k) ?_
  show own_Go _ _ _ _ (T1.setTop (mkF m 9 #[.val (.ref a1), .val (.double d1), .second, .val (.double (FP.dadd a d1)), .second, .unset, .unset] [(.ref a1), (.double (FP.dadd a d1))]))
  obtain ⟨T2, X2, e2, st2⟩ := getF X1 hx hZ hown (host := "") (Or.inl (hw _ (List.mem_of_getElem? (i := 19) rfl))) Via.refl e1 PFs (g := (mkF m 9 #[.val (.ref a1), .val (.double d1), .second, .val (.double (FP.dadd a d1)), .second, .unset, .unset] [(.ref a1), (.double (FP.dadd a d1))])) rfl rfl (hb hby d4_9)
  refine own_by st2 ?_
  show own_Go _ _ _ _ (T2.setTop (mkF m 12 #[.val (.ref a1), .val (.double d1), .second, .val (.double (FP.dadd a d1)), .second, .unset, .unset] [(.double a), (.double (FP.dadd a d1))]))
  refine own_by (fun _ k => XS.dsubS X2.here hx rfl (hb hby d4_12) rfl qn2 rfl k) ?_
  show own_Go _ _ _ _ (T2.setTop (mkF m 13 #[.val (.ref a1), .val (.double d1), .second, .val (.double (FP.dadd a d1)), .second, .unset, .unset] [(.double (FP.dsub (FP.dadd a d1) a))]))
  refine own_by (fun _ k => XS.dstore X2.here hx rfl (hb hby d4_13) rfl (l' := #[.val (.ref a1), .val (.double d1), .second, .val (.double (FP.dadd a d1)), .second, .val (.double (FP.dsub (FP.dadd a d1) a)), .second]) rfl k) ?_
  refine own_by (fun _ k => XS.aloadN X2.here hx rfl (hb hby d4_15) rfl rfl k) ?_
  show own_Go _ _ _ _ (T2.setTop (mkF m 16 #[.val (.ref a1), .val (.double d1), .second, .val (.double (FP.dadd a d1)), .second, .val (.double (FP.dsub (FP.dadd a d1) a)), .second] [(.ref a1)]))
  refine own_by (fun _ k => XS.dup X2.here hx rfl (hb hby d4_16) rfl rfl k) ?_
  show own_Go _ _ _ _ (T2.setTop (mkF m 17 #[.val (.ref a1), .val (.double d1), .second, .val (.double (FP.dadd a d1)), .second, .val (.double (FP.dsub (FP.dadd a d1) a)), .second] [(.ref a1), (.ref a1)]))
  obtain ⟨T3, X3, e3, st3⟩ := getF X2 hx hZ hown (host := "") (Or.inl (hw _ (List.mem_of_getElem? (i := 21) rfl))) Via.refl e2 PFl (g := (mkF m 17 #[.val (.ref a1), .val (.double d1), .second, .val (.double (FP.dadd a d1)), .second, .val (.double (FP.dsub (FP.dadd a d1) a)), .second] [(.ref a1), (.ref a1)])) rfl rfl (hb hby d4_17)
  refine own_by st3 ?_
  refine own_by (fun _ k => XS.aloadN X3.here hx rfl (hb hby d4_20) rfl rfl k) ?_
  show own_Go _ _ _ _ (T3.setTop (mkF m 21 #[.val (.ref a1), .val (.double d1), .second, .val (.double (FP.dadd a d1)), .second, .val (.double (FP.dsub (FP.dadd a d1) a)), .second] [(.ref a1), (.double c9), (.ref a1)]))
  obtain ⟨T4, X4, e4, st4⟩ := getF X3 hx hZ hown (host := "") (Or.inl (hw _ (List.mem_of_getElem? (i := 19) rfl))) Via.refl e3 PFs (g := (mkF m 21 #[.val (.ref a1), .val (.double d1), .second, .val (.double (FP.dadd a d1)), .second, .val (.double (FP.dsub (FP.dadd a d1) a)), .second] [(.ref a1), (.double c9), (.ref a1)])) rfl rfl (hb hby d4_21)
  refine own_by st4 ?_
  show own_Go _ _ _ _ (T4.setTop (mkF m 24 #[.val (.ref a1), .val (.double d1), .second, .val (.double (FP.dadd a d1)), .second, .val (.double (FP.dsub (FP.dadd a d1) a)), .second] [(.double a), (.double c9), (.ref a1)]))
  refine own_by (fun _ k => XS.dloadN X4.here hx rfl (hb hby d4_24) rfl k) ?_
  show own_Go _ _ _ _ (T4.setTop (mkF m 25 #[.val (.ref a1), .val (.double d1), .second, .val (.double (FP.dadd a d1)), .second, .val (.double (FP.dsub (FP.dadd a d1) a)), .second] [(.double (FP.dadd a d1)), (.double a), (.double c9), (.ref a1)]))
  refine own_by (fun _ k => XS.dload X4.here hx rfl (hb hby d4_25) rfl k) ?_
  show own_Go _ _ _ _ (T4.setTop (mkF m 27 #[.val (.ref a1), .val (.double d1), .second, .val (.double (FP.dadd a d1)), .second, .val (.double (FP.dsub (FP.dadd a d1) a)), .second] [(.double (FP.dsub (FP.dadd a d1) a)), (.double (FP.dadd a d1)), (.double a), (.double c9), (.ref a1)]))
  refine own_by (fun _ k => XS.dsubS X4.here hx rfl (hb hby d4_27) rfl qn3 rfl k) ?_
  show own_Go _ _ _ _ (T4.setTop (mkF m 28 #[.val (.ref a1), .val (.double d1), .second, .val (.double (FP.dadd a d1)), .second, .val (.double (FP.dsub (FP.dadd a d1) a)), .second] [(.double (FP.dsub (FP.dadd a d1) (FP.dsub (FP.dadd a d1) a))), (.double a), (.double c9), (.ref a1)]))
  refine own_by (fun _ k => XS.dsubS X4.here hx rfl (hb hby d4_28) rfl qn4 rfl k) ?_
  show own_Go _ _ _ _ (T4.setTop (mkF m 29 #[.val (.ref a1), .val (.double d1), .second, .val (.double (FP.dadd a d1)), .second, .val (.double (FP.dsub (FP.dadd a d1) a)), .second] [(.double (FP.dsub a (FP.dsub (FP.dadd a d1) (FP.dsub (FP.dadd a d1) a)))), (.double c9), (.ref a1)]))
  refine own_by (fun _ k => XS.dloadN X4.here hx rfl (hb hby d4_29) rfl k) ?_
  show own_Go _ _ _ _ (T4.setTop (mkF m 30 #[.val (.ref a1), .val (.double d1), .second, .val (.double (FP.dadd a d1)), .second, .val (.double (FP.dsub (FP.dadd a d1) a)), .second] [(.double d1), (.double (FP.dsub a (FP.dsub (FP.dadd a d1) (FP.dsub (FP.dadd a d1) a)))), (.double c9), (.ref a1)]))
  refine own_by (fun _ k => XS.dload X4.here hx rfl (hb hby d4_30) rfl k) ?_
  show own_Go _ _ _ _ (T4.setTop (mkF m 32 #[.val (.ref a1), .val (.double d1), .second, .val (.double (FP.dadd a d1)), .second, .val (.double (FP.dsub (FP.dadd a d1) a)), .second] [(.double (FP.dsub (FP.dadd a d1) a)), (.double d1), (.double (FP.dsub a (FP.dsub (FP.dadd a d1) (FP.dsub (FP.dadd a d1) a)))), (.double c9), (.ref a1)]))
  refine own_by (fun _ k => XS.dsubS X4.here hx rfl (hb hby d4_32) rfl qn5 rfl k) ?_
  show own_Go _ _ _ _ (T4.setTop (mkF m 33 #[.val (.ref a1), .val (.double d1), .second, .val (.double (FP.dadd a d1)), .second, .val (.double (FP.dsub (FP.dadd a d1) a)), .second] [(.double (FP.dsub d1 (FP.dsub (FP.dadd a d1) a))), (.double (FP.dsub a (FP.dsub (FP.dadd a d1) (FP.dsub (FP.dadd a d1) a)))), (.double c9), (.ref a1)]))
  refine own_by (fun _ k => XS.daddS X4.here hx rfl (hb hby d4_33) rfl qn6 rfl k) ?_
  show own_Go _ _ _ _ (T4.setTop (mkF m 34 #[.val (.ref a1), .val (.double d1), .second, .val (.double (FP.dadd a d1)), .second, .val (.double (FP.dsub (FP.dadd a d1) a)), .second] [(.double (FP.dadd (FP.dsub a (FP.dsub (FP.dadd a d1) (FP.dsub (FP.dadd a d1) a))) (FP.dsub d1 (FP.dsub (FP.dadd a d1) a)))), (.double c9), (.ref a1)]))
  refine own_by (fun _ k => XS.daddS X4.here hx rfl (hb hby d4_34) rfl qn7 rfl k) ?_
  show own_Go _ _ _ _ (T4.setTop (mkF m 35 #[.val (.ref a1), .val (.double d1), .second, .val (.double (FP.dadd a d1)), .second, .val (.double (FP.dsub (FP.dadd a d1) a)), .second] [(.double (FP.dadd c9 (FP.dadd (FP.dsub a (FP.dsub (FP.dadd a d1) (FP.dsub (FP.dadd a d1) a))) (FP.dsub d1 (FP.dsub (FP.dadd a d1) a))))), (.ref a1)]))
  obtain ⟨T5, h5, X5, e5, W5, st5⟩ := putF X4 hx hZ hown (host := "") (Or.inl (hw _ (List.mem_of_getElem? (i := 21) rfl))) Via.refl e4 PFl PE (Or.inl (hw _ (List.mem_of_getElem? (i := 22) rfl))) (hw _ (List.mem_of_getElem? (i := 6) rfl)) (ty := .double) (by decide) rfl rfl (g := (mkF m 35 #[.val (.ref a1), .val (.double d1), .second, .val (.double (FP.dadd a d1)), .second, .val (.double (FP.dsub (FP.dadd a d1) a)), .second] [(.double (FP.dadd c9 (FP.dadd (FP.dsub a (FP.dsub (FP.dadd a d1) (FP.dsub (FP.dadd a d1) a))) (FP.dsub d1 (FP.dsub (FP.dadd a d1) a))))), (.ref a1)])) rfl rfl (hb hby d4_35)
  refine own_by st5 ?_
  have f6 := PFl.same W5
  have f7 := PE.wr W5
  have f8 := PFs.other W5 (Or.inr (slot_ne (Or.inl (hw _ (List.mem_of_getElem? (i := 20) rfl))) (Or.inl (hw _ (List.mem_of_getElem? (i := 22) rfl))) (by decide) (t := .double) (t' := .double) (by decide) (by decide)))
  have f9 := (Keep.refl h0 [a1]).wr W5 (Or.inl (List.mem_of_getElem? (i := 0) rfl))
  have N5 := Fr.snoc X5 N0 Pa
  have Z5 := own_size_wr W5 Z0
  show own_Go _ _ _ _ (T5.setTop (mkF m 38 #[.val (.ref a1), .val (.double d1), .second, .val (.double (FP.dadd a d1)), .second, .val (.double (FP.dsub (FP.dadd a d1) a)), .second] []))
  refine own_by (fun _ k => XS.aloadN X5.here hx rfl (hb hby d4_38) rfl rfl k) ?_
  show own_Go _ _ _ _ (T5.setTop (mkF m 39 #[.val (.ref a1), .val (.double d1), .second, .val (.double (FP.dadd a d1)), .second, .val (.double (FP.dsub (FP.dadd a d1) a)), .second] [(.ref a1)]))
  refine own_by (fun _ k => XS.dloadN X5.here hx rfl (hb hby d4_39) rfl k) ?_
  show own_Go _ _ _ _ (T5.setTop (mkF m 40 #[.val (.ref a1), .val (.double d1), .second, .val (.double (FP.dadd a d1)), .second, .val (.double (FP.dsub (FP.dadd a d1) a)), .second] [(.double (FP.dadd a d1)), (.ref a1)]))
  obtain ⟨T10, h10, X10, e10, W10, st10⟩ := putF X5 hx hZ hown (host := "") (Or.inl (hw _ (List.mem_of_getElem? (i := 19) rfl))) Via.refl e5 f8 f7 (Or.inl (hw _ (List.mem_of_getElem? (i := 20) rfl))) (hw _ (List.mem_of_getElem? (i := 6) rfl)) (ty := .double) (by decide) rfl rfl (g := (mkF m 40 #[.val (.ref a1), .val (.double d1), .second, .val (.double (FP.dadd a d1)), .second, .val (.double (FP.dsub (FP.dadd a d1) a)), .second] [(.double (FP.dadd a d1)), (.ref a1)])) rfl rfl (hb hby d4_40)
  refine own_by st10 ?_
  have f11 := f8.same W10
  have f12 := f7.wr W10
  have f13 := f6.other W10 (Or.inr (slot_ne (Or.inl (hw _ (List.mem_of_getElem? (i := 22) rfl))) (Or.inl (hw _ (List.mem_of_getElem? (i := 20) rfl))) (by decide) (t := .double) (t' := .double) (by decide) (by decide)))
  have f14 := f9.wr W10 (Or.inl (List.mem_of_getElem? (i := 0) rfl))
  have N10 := Fr.snoc X10 N5 Pa
  have Z10 := own_size_wr W10 Z5
  show own_Go _ _ _ _ (T10.setTop (mkF m 43 #[.val (.ref a1), .val (.double d1), .second, .val (.double (FP.dadd a d1)), .second, .val (.double (FP.dsub (FP.dadd a d1) a)), .second] []))
  exact own_retV X10 hx Bd.notSynchronized e10 Bd.returns (hb hby d4_43) (⟨rfl, N10, f14, sq, _, _, rq, f11, f13, dq, tq⟩) (by decide) (by decide)
set_option maxRecDepth 65536 in
set_option maxHeartbeats 40000000 in
theorem rm5 (l : Launch) (Z : State) (a0 : Array Value) (hw : ∀ d ∈ tables_1, d.before a0 Z = true) (ws : List Jvm.Cond) (a1 : Addr) (a c9 : UInt64) (h0 : Heap) (n0 : Nat) (Z0 : n0 ≤ h0.size) (PFs : Fld Z h0 a1 "com/example/link_prestige/linkprestige/CompensatedSum" "sum" "D" (.double a)) (PFl : Fld Z h0 a1 "com/example/link_prestige/linkprestige/CompensatedSum" "lost" "D" (.double c9)) (Hn : Jvm.Free.Fl.NoNaN64 (FP.dadd a c9)) :
    MetFree l (⟨"com/example/link_prestige/linkprestige/CompensatedSum", "value", "()D"⟩ : MethodName) (head1 (Jvm.Cond.code (⟨"com/example/link_prestige/linkprestige/CompensatedSum", "value", "()D"⟩ : MethodName) prog_9_method_3_code 1 (some .double) :: ws) ({ frames := 0, cells := 0, slots := 0, locals := 0 } : Room)) (fun a U => a = #[(.ref a1)] ∧ Z.Warmed39 U.vm ∧ U.heap = h0) (fun _ _ _ _ _ => True) (fun _ U o U' => ∃ vv LL, o = .returned vv ∧ own_ap (fun v h L => v = some (.double (FP.dadd a c9)) ∧ Fr n0 L ∧ h = h0) vv U'.heap LL ∧ FrameEnd U o U' LL 0 0) := by
  refine MetFree.of_bodySF (plainFor_of_name pn_5) hisR ?_
  intro p e s m args below meth c s₁ Bd hml0 hP hK
  obtain ⟨rfl, hZ, hh⟩ := hP
  have hx := Bd.exec
  have hby := Bd.bytes
  have hml : c.maxLocals = 1 := hml0
  have hown : s.vm.findClass "com/example/link_prestige/linkprestige/CompensatedSum" = some m.cls := findClass_of_methodNamed Bd.named
  have hnm := (name_of_methodNamed Bd.named Bd.method).1
  have X0 : Stand p l e ({ frames := 0, cells := 0, slots := 0, locals := 0 } : Room) s m #[(.ref a1)] below meth c s₁ [] 0 0 := Stand.of_body Bd
  have e0 : s₁.heap = h0 := by rw [← hh, Bd.state]; rfl
  have N0 := Fr.nil n0
  show own_Go p.tables e below (own_Q s (fun v h L => v = some (.double (FP.dadd a c9)) ∧ Fr n0 L ∧ h = h0) 0 0) (s₁.setTop (entryFrame m #[(.ref a1)] 1))
  rw [show entryFrame m #[(.ref a1)] 1 = mkF m 0 #[.val (.ref a1)] [] from by first | (simp [entryFrame, mkF, argsToLocals, Value.category]; done) | rfl]
  show own_Go _ _ _ _ (s₁.setTop (mkF m 0 #[.val (.ref a1)] []))
  refine own_by (fun _ k => XS.aloadN X0.here hx rfl (hb hby d5_0) rfl rfl k) ?_
  show own_Go _ _ _ _ (s₁.setTop (mkF m 1 #[.val (.ref a1)] [(.ref a1)]))
  obtain ⟨T1, X1, e1, st1⟩ := getF X0 hx hZ hown (host := "") (Or.inl (hw _ (List.mem_of_getElem? (i := 19) rfl))) Via.refl e0 PFs (g := (mkF m 1 #[.val (.ref a1)] [(.ref a1)])) rfl rfl (hb hby d5_1)
  refine own_by st1 ?_
  refine own_by (fun _ k => XS.aloadN X1.here hx rfl (hb hby d5_4) rfl rfl k) ?_
  show own_Go _ _ _ _ (T1.setTop (mkF m 5 #[.val (.ref a1)] [(.ref a1), (.double a)]))
  obtain ⟨T2, X2, e2, st2⟩ := getF X1 hx hZ hown (host := "") (Or.inl (hw _ (List.mem_of_getElem? (i := 21) rfl))) Via.refl e1 PFl (g := (mkF m 5 #[.val (.ref a1)] [(.ref a1), (.double a)])) rfl rfl (hb hby d5_5)
  refine own_by st2 ?_
  show own_Go _ _ _ _ (T2.setTop (mkF m 8 #[.val (.ref a1)] [(.double c9), (.double a)]))
  refine own_by (fun _ k => XS.daddS X2.here hx rfl (hb hby d5_8) rfl Hn rfl k) ?_
  show own_Go _ _ _ _ (T2.setTop (mkF m 9 #[.val (.ref a1)] [(.double (FP.dadd a c9))]))
  exact own_retD X2 hx Bd.notSynchronized e2 Bd.returns (hb hby d5_9) (⟨rfl, N0, rfl⟩) (by decide) (by decide)
set_option maxRecDepth 65536 in
set_option maxHeartbeats 40000000 in
theorem rm0 (l : Launch) (Z : State) (a0 : Array Value) (hw : ∀ d ∈ tables_1, d.before a0 Z = true) (ws : List Jvm.Cond) (p1 : Int32) (p2 : Int32) (p3 : Int32) (p4 : Int32) (p5 : Int64)  (h0 : Heap) (n0 : Nat) (Z0 : n0 ≤ h0.size) :
    MetFree l x (head1 (Jvm.Cond.code x code maxLocals ret :: ws) room_1) (fun a U => a = #[(.int p1), (.int p2), (.int p3), (.int p4), (.long p5)] ∧ Z.Warmed39 U.vm ∧ U.heap = h0) (fun _ _ _ _ _ => True) (fun _ U o U' => ∃ vv LL, o = .returned vv ∧ own_ap (fun v h L => v = some (.int 1) ∧ Fr n0 L) vv U'.heap LL ∧ FrameEnd U o U' LL 16 128) := by
  refine MetFree.of_bodySF (plainFor_of_name pn_0) hisR ?_
  intro p e s m args below meth c s₁ Bd hml0 hP hK
  obtain ⟨rfl, hZ, hh⟩ := hP
  have hx := Bd.exec
  have hby := Bd.bytes
  have hml : c.maxLocals = 25 := hml0
  have hown : s.vm.findClass "com/example/link_prestige/linkprestige/CompensatedSumAddPinLaw" = some m.cls := findClass_of_methodNamed Bd.named
  have hnm := (name_of_methodNamed Bd.named Bd.method).1
  have X0 : Stand p l e room_1 s m #[(.int p1), (.int p2), (.int p3), (.int p4), (.long p5)] below meth c s₁ [] 0 0 := Stand.of_body Bd
  have e0 : s₁.heap = h0 := by rw [← hh, Bd.state]; rfl
  have N0 := Fr.nil n0
  show own_Go p.tables e below (own_Q s (fun v h L => v = some (.int 1) ∧ Fr n0 L) 16 128) (s₁.setTop (entryFrame m #[(.int p1), (.int p2), (.int p3), (.int p4), (.long p5)] maxLocals))
  rw [show entryFrame m #[(.int p1), (.int p2), (.int p3), (.int p4), (.long p5)] maxLocals = mkF m 0 #[.val (.int p1), .val (.int p2), .val (.int p3), .val (.int p4), .val (.long p5), .second, .unset, .unset, .unset, .unset, .unset, .unset, .unset, .unset, .unset, .unset, .unset, .unset, .unset, .unset, .unset, .unset, .unset, .unset, .unset] [] from by first | (simp [entryFrame, mkF, argsToLocals, Value.category, maxLocals]; done) | rfl]
  show own_Go _ _ _ _ (s₁.setTop (mkF m 0 #[.val (.int p1), .val (.int p2), .val (.int p3), .val (.int p4), .val (.long p5), .second, .unset, .unset, .unset, .unset, .unset, .unset, .unset, .unset, .unset, .unset, .unset, .unset, .unset, .unset, .unset, .unset, .unset, .unset, .unset] []))
  refine own_by (fun _ k => XS.iloadN X0.here hx rfl (hb hby at_0) rfl k) ?_
  show own_Go _ _ _ _ (s₁.setTop (mkF m 1 #[.val (.int p1), .val (.int p2), .val (.int p3), .val (.int p4), .val (.long p5), .second, .unset, .unset, .unset, .unset, .unset, .unset, .unset, .unset, .unset, .unset, .unset, .unset, .unset, .unset, .unset, .unset, .unset, .unset, .unset] [(.int p1)]))
  refine own_by (fun _ k => XS.i2l X0.here hx rfl (hb hby at_1) rfl k) ?_
  refine own_by (fun _ k => XS.lload X0.here hx rfl (hb hby at_2) rfl k) ?_
  refine own_by (fun _ k => XS.iconst X0.here hx rfl (hb hby at_4) k) ?_
  show own_Go _ _ _ _ (s₁.setTop (mkF m 5 #[.val (.int p1), .val (.int p2), .val (.int p3), .val (.int p4), .val (.long p5), .second, .unset, .unset, .unset, .unset, .unset, .unset, .unset, .unset, .unset, .unset, .unset, .unset, .unset, .unset, .unset, .unset, .unset, .unset, .unset] [(.int (0 : Int32)), (.long p5), (.long (p1.toInt64))]))
  refine own_callS X0 hx hZ hown (hw _ (List.mem_of_getElem? (i := 0) rfl)) (hw _ (List.mem_of_getElem? (i := 1) rfl)) (hw _ (List.mem_of_getElem? (i := 2) rfl)) (hw _ (List.mem_of_getElem? (i := 3) rfl)) (by decide) (rm1 l Z a0 hw [] p5 (0 : Int32) h0 n0 Z0) e0 (by rw [hml]; rfl) [(.long p5), (.int (0 : Int32))] [(.long (p1.toInt64))] rfl (lenOf own_pd1 rfl) rfl 2 (Nat.le_of_eq rfl) (by decide) (by decide) (Nat.le_of_ble_eq_true rfl) (Nat.le_of_ble_eq_true rfl) (hb hby at_5) ?_
  intro T1 Lc1 v1 X1 hQ1
  obtain ⟨sh1, rfl, N1q, e1, sa1, sb1⟩ := hQ1
  have N1 := Fr.app N0 N1q
  show own_Go _ _ _ _ (T1.setTop (mkF m 8 #[.val (.int p1), .val (.int p2), .val (.int p3), .val (.int p4), .val (.long p5), .second, .unset, .unset, .unset, .unset, .unset, .unset, .unset, .unset, .unset, .unset, .unset, .unset, .unset, .unset, .unset, .unset, .unset, .unset, .unset] [(.int sh1), (.long (p1.toInt64))]))
  refine own_by (fun _ k => XS.lshl X1.here hx rfl (hb hby at_8) rfl k) ?_
  show own_Go _ _ _ _ (T1.setTop (mkF m 9 #[.val (.int p1), .val (.int p2), .val (.int p3), .val (.int p4), .val (.long p5), .second, .unset, .unset, .unset, .unset, .unset, .unset, .unset, .unset, .unset, .unset, .unset, .unset, .unset, .unset, .unset, .unset, .unset, .unset, .unset] [(.long ((p1.toInt64) <<< (sh1 &&& 0x3f).toInt64))]))
  obtain ⟨v6_2, hv6_2⟩ : ∃ z_ : Int64, ((p1.toInt64) <<< (sh1 &&& 0x3f).toInt64) = z_ := ⟨_, rfl⟩
  refine own_gen hv6_2 (fun z_ => T1.setTop (mkF m 9 #[.val (.int p1), .val (.int p2), .val (.int p3), .val (.int p4), .val (.long p5), .second, .unset, .unset, .unset, .unset, .unset, .unset, .unset, .unset, .unset, .unset, .unset, .unset, .unset, .unset, .unset, .unset, .unset, .unset, .unset] [(.long z_)])) ?_
  refine own_by (fun _ k => XS.lstore X1.here hx rfl (hb hby at_9) rfl (l' := #[.val (.int p1), .val (.int p2), .val (.int p3), .val (.int p4), .val (.long p5), .second, .val (.long v6_2), .second, .unset, .unset, .unset, .unset, .unset, .unset, .unset, .unset, .unset, .unset, .unset, .unset, .unset, .unset, .unset, .unset, .unset]) rfl k) ?_
  refine own_by (fun _ k => XS.iloadN X1.here hx rfl (hb hby at_11) rfl k) ?_
  show own_Go _ _ _ _ (T1.setTop (mkF m 12 #[.val (.int p1), .val (.int p2), .val (.int p3), .val (.int p4), .val (.long p5), .second, .val (.long v6_2), .second, .unset, .unset, .unset, .unset, .unset, .unset, .unset, .unset, .unset, .unset, .unset, .unset, .unset, .unset, .unset, .unset, .unset] [(.int p2)]))
  refine own_by (fun _ k => XS.i2l X1.here hx rfl (hb hby at_12) rfl k) ?_
  refine own_by (fun _ k => XS.lload X1.here hx rfl (hb hby at_13) rfl k) ?_
  refine own_by (fun _ k => XS.iconst X1.here hx rfl (hb hby at_15) k) ?_
  show own_Go _ _ _ _ (T1.setTop (mkF m 16 #[.val (.int p1), .val (.int p2), .val (.int p3), .val (.int p4), .val (.long p5), .second, .val (.long v6_2), .second, .unset, .unset, .unset, .unset, .unset, .unset, .unset, .unset, .unset, .unset, .unset, .unset, .unset, .unset, .unset, .unset, .unset] [(.int (1 : Int32)), (.long p5), (.long (p2.toInt64))]))
  refine own_callS X1 hx hZ hown (hw _ (List.mem_of_getElem? (i := 0) rfl)) (hw _ (List.mem_of_getElem? (i := 1) rfl)) (hw _ (List.mem_of_getElem? (i := 2) rfl)) (hw _ (List.mem_of_getElem? (i := 3) rfl)) (by decide) (rm1 l Z a0 hw [] p5 (1 : Int32) h0 n0 Z0) e1 (by rw [hml]; rfl) [(.long p5), (.int (1 : Int32))] [(.long (p2.toInt64))] rfl (lenOf own_pd1 rfl) rfl 2 (Nat.le_of_eq rfl) (by decide) (by decide) (Nat.le_of_ble_eq_true rfl) (Nat.le_of_ble_eq_true rfl) (hb hby at_16) ?_
  intro T3 Lc3 v3 X3 hQ3
  obtain ⟨sh3, rfl, N3q, e3, sa3, sb3⟩ := hQ3
  have N3 := Fr.app N1 N3q
  show own_Go _ _ _ _ (T3.setTop (mkF m 19 #[.val (.int p1), .val (.int p2), .val (.int p3), .val (.int p4), .val (.long p5), .second, .val (.long v6_2), .second, .unset, .unset, .unset, .unset, .unset, .unset, .unset, .unset, .unset, .unset, .unset, .unset, .unset, .unset, .unset, .unset, .unset] [(.int sh3), (.long (p2.toInt64))]))
  refine own_by (fun _ k => XS.lshl X3.here hx rfl (hb hby at_19) rfl k) ?_
  show own_Go _ _ _ _ (T3.setTop (mkF m 20 #[.val (.int p1), .val (.int p2), .val (.int p3), .val (.int p4), .val (.long p5), .second, .val (.long v6_2), .second, .unset, .unset, .unset, .unset, .unset, .unset, .unset, .unset, .unset, .unset, .unset, .unset, .unset, .unset, .unset, .unset, .unset] [(.long ((p2.toInt64) <<< (sh3 &&& 0x3f).toInt64))]))
  obtain ⟨v8_4, hv8_4⟩ : ∃ z_ : Int64, ((p2.toInt64) <<< (sh3 &&& 0x3f).toInt64) = z_ := ⟨_, rfl⟩
  refine own_gen hv8_4 (fun z_ => T3.setTop (mkF m 20 #[.val (.int p1), .val (.int p2), .val (.int p3), .val (.int p4), .val (.long p5), .second, .val (.long v6_2), .second, .unset, .unset, .unset, .unset, .unset, .unset, .unset, .unset, .unset, .unset, .unset, .unset, .unset, .unset, .unset, .unset, .unset] [(.long z_)])) ?_
  refine own_by (fun _ k => XS.lstore X3.here hx rfl (hb hby at_20) rfl (l' := #[.val (.int p1), .val (.int p2), .val (.int p3), .val (.int p4), .val (.long p5), .second, .val (.long v6_2), .second, .val (.long v8_4), .second, .unset, .unset, .unset, .unset, .unset, .unset, .unset, .unset, .unset, .unset, .unset, .unset, .unset, .unset, .unset]) rfl k) ?_
  refine own_by (fun _ k => XS.iloadN X3.here hx rfl (hb hby at_22) rfl k) ?_
  show own_Go _ _ _ _ (T3.setTop (mkF m 23 #[.val (.int p1), .val (.int p2), .val (.int p3), .val (.int p4), .val (.long p5), .second, .val (.long v6_2), .second, .val (.long v8_4), .second, .unset, .unset, .unset, .unset, .unset, .unset, .unset, .unset, .unset, .unset, .unset, .unset, .unset, .unset, .unset] [(.int p3)]))
  refine own_by (fun _ k => XS.i2l X3.here hx rfl (hb hby at_23) rfl k) ?_
  refine own_by (fun _ k => XS.lload X3.here hx rfl (hb hby at_24) rfl k) ?_
  refine own_by (fun _ k => XS.iconst X3.here hx rfl (hb hby at_26) k) ?_
  show own_Go _ _ _ _ (T3.setTop (mkF m 27 #[.val (.int p1), .val (.int p2), .val (.int p3), .val (.int p4), .val (.long p5), .second, .val (.long v6_2), .second, .val (.long v8_4), .second, .unset, .unset, .unset, .unset, .unset, .unset, .unset, .unset, .unset, .unset, .unset, .unset, .unset, .unset, .unset] [(.int (2 : Int32)), (.long p5), (.long (p3.toInt64))]))
  refine own_callS X3 hx hZ hown (hw _ (List.mem_of_getElem? (i := 0) rfl)) (hw _ (List.mem_of_getElem? (i := 1) rfl)) (hw _ (List.mem_of_getElem? (i := 2) rfl)) (hw _ (List.mem_of_getElem? (i := 3) rfl)) (by decide) (rm1 l Z a0 hw [] p5 (2 : Int32) h0 n0 Z0) e3 (by rw [hml]; rfl) [(.long p5), (.int (2 : Int32))] [(.long (p3.toInt64))] rfl (lenOf own_pd1 rfl) rfl 2 (Nat.le_of_eq rfl) (by decide) (by decide) (Nat.le_of_ble_eq_true rfl) (Nat.le_of_ble_eq_true rfl) (hb hby at_27) ?_
  intro T5 Lc5 v5 X5 hQ5
  obtain ⟨sh5, rfl, N5q, e5, sa5, sb5⟩ := hQ5
  have N5 := Fr.app N3 N5q
  show own_Go _ _ _ _ (T5.setTop (mkF m 30 #[.val (.int p1), .val (.int p2), .val (.int p3), .val (.int p4), .val (.long p5), .second, .val (.long v6_2), .second, .val (.long v8_4), .second, .unset, .unset, .unset, .unset, .unset, .unset, .unset, .unset, .unset, .unset, .unset, .unset, .unset, .unset, .unset] [(.int sh5), (.long (p3.toInt64))]))
  refine own_by (fun _ k => XS.lshl X5.here hx rfl (hb hby at_30) rfl k) ?_
  show own_Go _ _ _ _ (T5.setTop (mkF m 31 #[.val (.int p1), .val (.int p2), .val (.int p3), .val (.int p4), .val (.long p5), .second, .val (.long v6_2), .second, .val (.long v8_4), .second, .unset, .unset, .unset, .unset, .unset, .unset, .unset, .unset, .unset, .unset, .unset, .unset, .unset, .unset, .unset] [(.long ((p3.toInt64) <<< (sh5 &&& 0x3f).toInt64))]))
  obtain ⟨v10_6, hv10_6⟩ : ∃ z_ : Int64, ((p3.toInt64) <<< (sh5 &&& 0x3f).toInt64) = z_ := ⟨_, rfl⟩
  refine own_gen hv10_6 (fun z_ => T5.setTop (mkF m 31 #[.val (.int p1), .val (.int p2), .val (.int p3), .val (.int p4), .val (.long p5), .second, .val (.long v6_2), .second, .val (.long v8_4), .second, .unset, .unset, .unset, .unset, .unset, .unset, .unset, .unset, .unset, .unset, .unset, .unset, .unset, .unset, .unset] [(.long z_)])) ?_
  refine own_by (fun _ k => XS.lstore X5.here hx rfl (hb hby at_31) rfl (l' := #[.val (.int p1), .val (.int p2), .val (.int p3), .val (.int p4), .val (.long p5), .second, .val (.long v6_2), .second, .val (.long v8_4), .second, .val (.long v10_6), .second, .unset, .unset, .unset, .unset, .unset, .unset, .unset, .unset, .unset, .unset, .unset, .unset, .unset]) rfl k) ?_
  refine own_by (fun _ k => XS.iloadN X5.here hx rfl (hb hby at_33) rfl k) ?_
  show own_Go _ _ _ _ (T5.setTop (mkF m 34 #[.val (.int p1), .val (.int p2), .val (.int p3), .val (.int p4), .val (.long p5), .second, .val (.long v6_2), .second, .val (.long v8_4), .second, .val (.long v10_6), .second, .unset, .unset, .unset, .unset, .unset, .unset, .unset, .unset, .unset, .unset, .unset, .unset, .unset] [(.int p4)]))
  refine own_by (fun _ k => XS.i2l X5.here hx rfl (hb hby at_34) rfl k) ?_
  refine own_by (fun _ k => XS.lload X5.here hx rfl (hb hby at_35) rfl k) ?_
  refine own_by (fun _ k => XS.iconst X5.here hx rfl (hb hby at_37) k) ?_
  show own_Go _ _ _ _ (T5.setTop (mkF m 38 #[.val (.int p1), .val (.int p2), .val (.int p3), .val (.int p4), .val (.long p5), .second, .val (.long v6_2), .second, .val (.long v8_4), .second, .val (.long v10_6), .second, .unset, .unset, .unset, .unset, .unset, .unset, .unset, .unset, .unset, .unset, .unset, .unset, .unset] [(.int (3 : Int32)), (.long p5), (.long (p4.toInt64))]))
  refine own_callS X5 hx hZ hown (hw _ (List.mem_of_getElem? (i := 0) rfl)) (hw _ (List.mem_of_getElem? (i := 1) rfl)) (hw _ (List.mem_of_getElem? (i := 2) rfl)) (hw _ (List.mem_of_getElem? (i := 3) rfl)) (by decide) (rm1 l Z a0 hw [] p5 (3 : Int32) h0 n0 Z0) e5 (by rw [hml]; rfl) [(.long p5), (.int (3 : Int32))] [(.long (p4.toInt64))] rfl (lenOf own_pd1 rfl) rfl 2 (Nat.le_of_eq rfl) (by decide) (by decide) (Nat.le_of_ble_eq_true rfl) (Nat.le_of_ble_eq_true rfl) (hb hby at_38) ?_
  intro T7 Lc7 v7 X7 hQ7
  obtain ⟨sh7, rfl, N7q, e7, sa7, sb7⟩ := hQ7
  have N7 := Fr.app N5 N7q
  show own_Go _ _ _ _ (T7.setTop (mkF m 41 #[.val (.int p1), .val (.int p2), .val (.int p3), .val (.int p4), .val (.long p5), .second, .val (.long v6_2), .second, .val (.long v8_4), .second, .val (.long v10_6), .second, .unset, .unset, .unset, .unset, .unset, .unset, .unset, .unset, .unset, .unset, .unset, .unset, .unset] [(.int sh7), (.long (p4.toInt64))]))
  refine own_by (fun _ k => XS.lshl X7.here hx rfl (hb hby at_41) rfl k) ?_
  show own_Go _ _ _ _ (T7.setTop (mkF m 42 #[.val (.int p1), .val (.int p2), .val (.int p3), .val (.int p4), .val (.long p5), .second, .val (.long v6_2), .second, .val (.long v8_4), .second, .val (.long v10_6), .second, .unset, .unset, .unset, .unset, .unset, .unset, .unset, .unset, .unset, .unset, .unset, .unset, .unset] [(.long ((p4.toInt64) <<< (sh7 &&& 0x3f).toInt64))]))
  obtain ⟨v12_8, hv12_8⟩ : ∃ z_ : Int64, ((p4.toInt64) <<< (sh7 &&& 0x3f).toInt64) = z_ := ⟨_, rfl⟩
  refine own_gen hv12_8 (fun z_ => T7.setTop (mkF m 42 #[.val (.int p1), .val (.int p2), .val (.int p3), .val (.int p4), .val (.long p5), .second, .val (.long v6_2), .second, .val (.long v8_4), .second, .val (.long v10_6), .second, .unset, .unset, .unset, .unset, .unset, .unset, .unset, .unset, .unset, .unset, .unset, .unset, .unset] [(.long z_)])) ?_
  refine own_by (fun _ k => XS.lstore X7.here hx rfl (hb hby at_42) rfl (l' := #[.val (.int p1), .val (.int p2), .val (.int p3), .val (.int p4), .val (.long p5), .second, .val (.long v6_2), .second, .val (.long v8_4), .second, .val (.long v10_6), .second, .val (.long v12_8), .second, .unset, .unset, .unset, .unset, .unset, .unset, .unset, .unset, .unset, .unset, .unset]) rfl k) ?_
  refine own_by (fun _ k => XS.lload X7.here hx rfl (hb hby at_44) rfl k) ?_
  refine own_by (fun _ k => XS.lload X7.here hx rfl (hb hby at_46) rfl k) ?_
  show own_Go _ _ _ _ (T7.setTop (mkF m 48 #[.val (.int p1), .val (.int p2), .val (.int p3), .val (.int p4), .val (.long p5), .second, .val (.long v6_2), .second, .val (.long v8_4), .second, .val (.long v10_6), .second, .val (.long v12_8), .second, .unset, .unset, .unset, .unset, .unset, .unset, .unset, .unset, .unset, .unset, .unset] [(.long v8_4), (.long v6_2)]))
  refine own_by (fun _ k => XS.ladd X7.here hx rfl (hb hby at_48) rfl k) ?_
  show own_Go _ _ _ _ (T7.setTop (mkF m 49 #[.val (.int p1), .val (.int p2), .val (.int p3), .val (.int p4), .val (.long p5), .second, .val (.long v6_2), .second, .val (.long v8_4), .second, .val (.long v10_6), .second, .val (.long v12_8), .second, .unset, .unset, .unset, .unset, .unset, .unset, .unset, .unset, .unset, .unset, .unset] [(.long (v6_2 + v8_4))]))
  obtain ⟨v14_9, hv14_9⟩ : ∃ z_ : Int64, (v6_2 + v8_4) = z_ := ⟨_, rfl⟩
  refine own_gen hv14_9 (fun z_ => T7.setTop (mkF m 49 #[.val (.int p1), .val (.int p2), .val (.int p3), .val (.int p4), .val (.long p5), .second, .val (.long v6_2), .second, .val (.long v8_4), .second, .val (.long v10_6), .second, .val (.long v12_8), .second, .unset, .unset, .unset, .unset, .unset, .unset, .unset, .unset, .unset, .unset, .unset] [(.long z_)])) ?_
  refine own_by (fun _ k => XS.lstore X7.here hx rfl (hb hby at_49) rfl (l' := #[.val (.int p1), .val (.int p2), .val (.int p3), .val (.int p4), .val (.long p5), .second, .val (.long v6_2), .second, .val (.long v8_4), .second, .val (.long v10_6), .second, .val (.long v12_8), .second, .val (.long v14_9), .second, .unset, .unset, .unset, .unset, .unset, .unset, .unset, .unset, .unset]) rfl k) ?_
  refine own_by (fun _ k => XS.lload X7.here hx rfl (hb hby at_51) rfl k) ?_
  refine own_by (fun _ k => XS.lload X7.here hx rfl (hb hby at_53) rfl k) ?_
  show own_Go _ _ _ _ (T7.setTop (mkF m 55 #[.val (.int p1), .val (.int p2), .val (.int p3), .val (.int p4), .val (.long p5), .second, .val (.long v6_2), .second, .val (.long v8_4), .second, .val (.long v10_6), .second, .val (.long v12_8), .second, .val (.long v14_9), .second, .unset, .unset, .unset, .unset, .unset, .unset, .unset, .unset, .unset] [(.long v10_6), (.long v14_9)]))
  refine own_by (fun _ k => XS.ladd X7.here hx rfl (hb hby at_55) rfl k) ?_
  show own_Go _ _ _ _ (T7.setTop (mkF m 56 #[.val (.int p1), .val (.int p2), .val (.int p3), .val (.int p4), .val (.long p5), .second, .val (.long v6_2), .second, .val (.long v8_4), .second, .val (.long v10_6), .second, .val (.long v12_8), .second, .val (.long v14_9), .second, .unset, .unset, .unset, .unset, .unset, .unset, .unset, .unset, .unset] [(.long (v14_9 + v10_6))]))
  obtain ⟨v16_10, hv16_10⟩ : ∃ z_ : Int64, (v14_9 + v10_6) = z_ := ⟨_, rfl⟩
  refine own_gen hv16_10 (fun z_ => T7.setTop (mkF m 56 #[.val (.int p1), .val (.int p2), .val (.int p3), .val (.int p4), .val (.long p5), .second, .val (.long v6_2), .second, .val (.long v8_4), .second, .val (.long v10_6), .second, .val (.long v12_8), .second, .val (.long v14_9), .second, .unset, .unset, .unset, .unset, .unset, .unset, .unset, .unset, .unset] [(.long z_)])) ?_
  refine own_by (fun _ k => XS.lstore X7.here hx rfl (hb hby at_56) rfl (l' := #[.val (.int p1), .val (.int p2), .val (.int p3), .val (.int p4), .val (.long p5), .second, .val (.long v6_2), .second, .val (.long v8_4), .second, .val (.long v10_6), .second, .val (.long v12_8), .second, .val (.long v14_9), .second, .val (.long v16_10), .second, .unset, .unset, .unset, .unset, .unset, .unset, .unset]) rfl k) ?_
  refine own_by (fun _ k => XS.lload X7.here hx rfl (hb hby at_58) rfl k) ?_
  refine own_by (fun _ k => XS.lload X7.here hx rfl (hb hby at_60) rfl k) ?_
  show own_Go _ _ _ _ (T7.setTop (mkF m 62 #[.val (.int p1), .val (.int p2), .val (.int p3), .val (.int p4), .val (.long p5), .second, .val (.long v6_2), .second, .val (.long v8_4), .second, .val (.long v10_6), .second, .val (.long v12_8), .second, .val (.long v14_9), .second, .val (.long v16_10), .second, .unset, .unset, .unset, .unset, .unset, .unset, .unset] [(.long v12_8), (.long v16_10)]))
  refine own_by (fun _ k => XS.ladd X7.here hx rfl (hb hby at_62) rfl k) ?_
  show own_Go _ _ _ _ (T7.setTop (mkF m 63 #[.val (.int p1), .val (.int p2), .val (.int p3), .val (.int p4), .val (.long p5), .second, .val (.long v6_2), .second, .val (.long v8_4), .second, .val (.long v10_6), .second, .val (.long v12_8), .second, .val (.long v14_9), .second, .val (.long v16_10), .second, .unset, .unset, .unset, .unset, .unset, .unset, .unset] [(.long (v16_10 + v12_8))]))
  obtain ⟨v18_11, hv18_11⟩ : ∃ z_ : Int64, (v16_10 + v12_8) = z_ := ⟨_, rfl⟩
  refine own_gen hv18_11 (fun z_ => T7.setTop (mkF m 63 #[.val (.int p1), .val (.int p2), .val (.int p3), .val (.int p4), .val (.long p5), .second, .val (.long v6_2), .second, .val (.long v8_4), .second, .val (.long v10_6), .second, .val (.long v12_8), .second, .val (.long v14_9), .second, .val (.long v16_10), .second, .unset, .unset, .unset, .unset, .unset, .unset, .unset] [(.long z_)])) ?_
  refine own_by (fun _ k => XS.lstore X7.here hx rfl (hb hby at_63) rfl (l' := #[.val (.int p1), .val (.int p2), .val (.int p3), .val (.int p4), .val (.long p5), .second, .val (.long v6_2), .second, .val (.long v8_4), .second, .val (.long v10_6), .second, .val (.long v12_8), .second, .val (.long v14_9), .second, .val (.long v16_10), .second, .val (.long v18_11), .second, .unset, .unset, .unset, .unset, .unset]) rfl k) ?_
  obtain ⟨fw6, ex6, bd6⟩ := own_pk sa1 sb1 hv6_2
  have dy6 : Jvm.FP.Core.DInt v6_2.toInt (FP.l2d v6_2) := by have q := own_l2d v6_2; rw [ex6] at q; exact q
  obtain ⟨fw8, ex8, bd8⟩ := own_pk sa3 sb3 hv8_4
  have dy8 : Jvm.FP.Core.DInt v8_4.toInt (FP.l2d v8_4) := by have q := own_l2d v8_4; rw [ex8] at q; exact q
  obtain ⟨fw10, ex10, bd10⟩ := own_pk sa5 sb5 hv10_6
  have dy10 : Jvm.FP.Core.DInt v10_6.toInt (FP.l2d v10_6) := by have q := own_l2d v10_6; rw [ex10] at q; exact q
  obtain ⟨fw12, ex12, bd12⟩ := own_pk sa7 sb7 hv12_8
  have dy12 : Jvm.FP.Core.DInt v12_8.toInt (FP.l2d v12_8) := by have q := own_l2d v12_8; rw [ex12] at q; exact q
  have E14 : v14_9.toInt = v6_2.toInt + v8_4.toInt := own_ladd hv14_9 (by omega) (by omega)
  have E16 : v16_10.toInt = v14_9.toInt + v10_6.toInt := own_ladd hv16_10 (by omega) (by omega)
  have E18 : v18_11.toInt = v16_10.toInt + v12_8.toInt := own_ladd hv18_11 (by omega) (by omega)
  show own_Go _ _ _ _ (T7.setTop (mkF m 65 #[.val (.int p1), .val (.int p2), .val (.int p3), .val (.int p4), .val (.long p5), .second, .val (.long v6_2), .second, .val (.long v8_4), .second, .val (.long v10_6), .second, .val (.long v12_8), .second, .val (.long v14_9), .second, .val (.long v16_10), .second, .val (.long v18_11), .second, .unset, .unset, .unset, .unset, .unset] []))
  obtain ⟨T12, h12, X12, e12, E12, A12, D12, -, st12⟩ := newO X7 hx hZ hown (hw _ (List.mem_of_getElem? (i := 5) rfl)) (hw _ (List.mem_of_getElem? (i := 6) rfl)) (hw _ (List.mem_of_getElem? (i := 7) rfl)) e7 (g := (mkF m 65 #[.val (.int p1), .val (.int p2), .val (.int p3), .val (.int p4), .val (.long p5), .second, .val (.long v6_2), .second, .val (.long v8_4), .second, .val (.long v10_6), .second, .val (.long v12_8), .second, .val (.long v14_9), .second, .val (.long v16_10), .second, .val (.long v18_11), .second, .unset, .unset, .unset, .unset, .unset] [])) rfl (hb hby at_65) (by decide) (by decide)
  refine own_by st12 ?_
  show own_Go _ _ _ _ (T12.setTop (mkF m 68 #[.val (.int p1), .val (.int p2), .val (.int p3), .val (.int p4), .val (.long p5), .second, .val (.long v6_2), .second, .val (.long v8_4), .second, .val (.long v10_6), .second, .val (.long v12_8), .second, .val (.long v14_9), .second, .val (.long v16_10), .second, .val (.long v18_11), .second, .unset, .unset, .unset, .unset, .unset] [.ref h0.size]))
  obtain ⟨b12, g12⟩ : ∃ z, z = h0.size := ⟨_, rfl⟩
  rw [← g12] at A12 D12
  refine own_gen g12.symm (fun z_ => T12.setTop (mkF m 68 #[.val (.int p1), .val (.int p2), .val (.int p3), .val (.int p4), .val (.long p5), .second, .val (.long v6_2), .second, .val (.long v8_4), .second, .val (.long v10_6), .second, .val (.long v12_8), .second, .val (.long v14_9), .second, .val (.long v16_10), .second, .val (.long v18_11), .second, .unset, .unset, .unset, .unset, .unset] [.ref z_])) ?_
  have ge12 : n0 ≤ b12 := Nat.le_trans Z0 (Nat.le_of_eq g12.symm)
  have Z12 := Nat.le_trans Z0 E12.1
  have f13 : Fld Z h12 b12 "com/example/link_prestige/linkprestige/CompensatedSum" "sum" "D" (.double (0 : UInt64)) := D12 (Or.inl (hw _ (List.mem_of_getElem? (i := 20) rfl))) (ty := .double) (by decide)
  have f14 : Fld Z h12 b12 "com/example/link_prestige/linkprestige/CompensatedSum" "lost" "D" (.double (0 : UInt64)) := D12 (Or.inl (hw _ (List.mem_of_getElem? (i := 22) rfl))) (ty := .double) (by decide)
  show own_Go _ _ _ _ (T12.setTop (mkF m 68 #[.val (.int p1), .val (.int p2), .val (.int p3), .val (.int p4), .val (.long p5), .second, .val (.long v6_2), .second, .val (.long v8_4), .second, .val (.long v10_6), .second, .val (.long v12_8), .second, .val (.long v14_9), .second, .val (.long v16_10), .second, .val (.long v18_11), .second, .unset, .unset, .unset, .unset, .unset] [(.ref b12)]))
  refine own_by (fun _ k => XS.dup X12.here hx rfl (hb hby at_68) rfl rfl k) ?_
  show own_Go _ _ _ _ (T12.setTop (mkF m 69 #[.val (.int p1), .val (.int p2), .val (.int p3), .val (.int p4), .val (.long p5), .second, .val (.long v6_2), .second, .val (.long v8_4), .second, .val (.long v10_6), .second, .val (.long v12_8), .second, .val (.long v14_9), .second, .val (.long v16_10), .second, .val (.long v18_11), .second, .unset, .unset, .unset, .unset, .unset] [(.ref b12), (.ref b12)]))
  refine own_callI X12 hx hZ hown rfl (hw _ (List.mem_of_getElem? (i := 8) rfl)) (hw _ (List.mem_of_getElem? (i := 9) rfl)) (hw _ (List.mem_of_getElem? (i := 7) rfl)) (hw _ (List.mem_of_getElem? (i := 10) rfl)) (by decide) (rm2 l Z a0 hw [] b12 h12 n0 Z12) e12 (by rw [hml]; rfl) b12 [] [(.ref b12)] rfl (lenOf own_pd2 rfl) rfl 1 (Nat.le_of_eq rfl) (by decide) (by decide) (Nat.le_of_ble_eq_true rfl) (Nat.le_of_ble_eq_true rfl) (hb hby at_69) ?_
  intro T15 Lc15 v15 X15 hQ15
  obtain ⟨rfl, N15q, e15⟩ := hQ15
  have N15 := Fr.app N7 N15q
  show own_Go _ _ _ _ (T15.setTop (mkF m 72 #[.val (.int p1), .val (.int p2), .val (.int p3), .val (.int p4), .val (.long p5), .second, .val (.long v6_2), .second, .val (.long v8_4), .second, .val (.long v10_6), .second, .val (.long v12_8), .second, .val (.long v14_9), .second, .val (.long v16_10), .second, .val (.long v18_11), .second, .unset, .unset, .unset, .unset, .unset] [(.ref b12)]))
  refine own_by (fun _ k => XS.astore X15.here hx rfl (hb hby at_72) rfl rfl (l' := #[.val (.int p1), .val (.int p2), .val (.int p3), .val (.int p4), .val (.long p5), .second, .val (.long v6_2), .second, .val (.long v8_4), .second, .val (.long v10_6), .second, .val (.long v12_8), .second, .val (.long v14_9), .second, .val (.long v16_10), .second, .val (.long v18_11), .second, .val (.ref b12), .unset, .unset, .unset, .unset]) rfl k) ?_
  refine own_by (fun _ k => XS.aload X15.here hx rfl (hb hby at_74) rfl rfl k) ?_
  refine own_by (fun _ k => XS.lload X15.here hx rfl (hb hby at_76) rfl k) ?_
  show own_Go _ _ _ _ (T15.setTop (mkF m 78 #[.val (.int p1), .val (.int p2), .val (.int p3), .val (.int p4), .val (.long p5), .second, .val (.long v6_2), .second, .val (.long v8_4), .second, .val (.long v10_6), .second, .val (.long v12_8), .second, .val (.long v14_9), .second, .val (.long v16_10), .second, .val (.long v18_11), .second, .val (.ref b12), .unset, .unset, .unset, .unset] [(.long v6_2), (.ref b12)]))
  refine own_by (fun _ k => XS.l2dS X15.here hx rfl (hb hby at_78) rfl rfl k) ?_
  show own_Go _ _ _ _ (T15.setTop (mkF m 79 #[.val (.int p1), .val (.int p2), .val (.int p3), .val (.int p4), .val (.long p5), .second, .val (.long v6_2), .second, .val (.long v8_4), .second, .val (.long v10_6), .second, .val (.long v12_8), .second, .val (.long v14_9), .second, .val (.long v16_10), .second, .val (.long v18_11), .second, .val (.ref b12), .unset, .unset, .unset, .unset] [(.double (FP.l2d v6_2)), (.ref b12)]))
  refine own_callV X15 hx hZ hown (hw _ (List.mem_of_getElem? (i := 14) rfl)) (hw _ (List.mem_of_getElem? (i := 15) rfl)) (notFace_of_selects (args := #[]) (mvT hZ (hw _ (List.mem_of_getElem? (i := 17) rfl)))) (hw _ (List.mem_of_getElem? (i := 17) rfl)) (hw _ (List.mem_of_getElem? (i := 16) rfl)) (hw _ (List.mem_of_getElem? (i := 7) rfl)) (hw _ (List.mem_of_getElem? (i := 18) rfl)) (by decide) (rm4 l Z a0 hw [] b12 (FP.l2d v6_2) (0 : UInt64) (0 : UInt64) (0 : Int) v6_2.toInt (0 : Int) h12 n0 Z12 A12 f13 f14 ge12 own_d0 dy6 own_d0 own_rep0 fw6 (by omega) bd6 (by omega) (by omega)) e15 b12 A12 (by rw [hml]; rfl) [(.double (FP.l2d v6_2))] [] rfl (lenOf own_pd3 rfl) rfl 0 (Nat.le_of_eq rfl) (by decide) (by decide) (Nat.le_of_ble_eq_true rfl) (Nat.le_of_ble_eq_true rfl) (hb hby at_79) ?_
  intro T16 Lc16 v16 X16 hQ16
  obtain ⟨h16, e16⟩ : ∃ h, T16.heap = h := ⟨_, rfl⟩
  rw [e16] at hQ16
  obtain ⟨rfl, N16q, K16, s16, a16, c16, RS16, FS16, FL16, DS16, DL16⟩ := hQ16
  have N16 := Fr.app N15 N16q
  have f17 := A12.keep K16
  have Z16 := Nat.le_trans Z12 K16.1
  obtain ⟨t16, ht16⟩ : ∃ z : Int, z = (0 : Int) + ((0 : Int) + v6_2.toInt - s16) := ⟨_, rfl⟩
  rw [← ht16] at DL16
  have nr16 := own_near2 RS16
  have iv16 : s16 + t16 = v6_2.toInt := by omega
  have tb16 : -1024 ≤ t16 ∧ t16 ≤ 1024 := by omega
  show own_Go _ _ _ _ (T16.setTop (mkF m 82 #[.val (.int p1), .val (.int p2), .val (.int p3), .val (.int p4), .val (.long p5), .second, .val (.long v6_2), .second, .val (.long v8_4), .second, .val (.long v10_6), .second, .val (.long v12_8), .second, .val (.long v14_9), .second, .val (.long v16_10), .second, .val (.long v18_11), .second, .val (.ref b12), .unset, .unset, .unset, .unset] []))
  refine own_by (fun _ k => XS.aload X16.here hx rfl (hb hby at_82) rfl rfl k) ?_
  show own_Go _ _ _ _ (T16.setTop (mkF m 84 #[.val (.int p1), .val (.int p2), .val (.int p3), .val (.int p4), .val (.long p5), .second, .val (.long v6_2), .second, .val (.long v8_4), .second, .val (.long v10_6), .second, .val (.long v12_8), .second, .val (.long v14_9), .second, .val (.long v16_10), .second, .val (.long v18_11), .second, .val (.ref b12), .unset, .unset, .unset, .unset] [(.ref b12)]))
  have cv16 : Jvm.FP.Core.DInt (own_RI v6_2.toInt) (FP.dadd a16 c16) := by rw [show v6_2.toInt = s16 + t16 by omega]; exact own_dadd DS16 DL16 (by omega)
  refine own_callV X16 hx hZ hown (hw _ (List.mem_of_getElem? (i := 23) rfl)) (hw _ (List.mem_of_getElem? (i := 24) rfl)) (notFace_of_selects (args := #[]) (mvT hZ (hw _ (List.mem_of_getElem? (i := 26) rfl)))) (hw _ (List.mem_of_getElem? (i := 26) rfl)) (hw _ (List.mem_of_getElem? (i := 25) rfl)) (hw _ (List.mem_of_getElem? (i := 7) rfl)) (hw _ (List.mem_of_getElem? (i := 27) rfl)) (by decide) (rm5 l Z a0 hw [] b12 a16 c16 h16 n0 Z16 FS16 FL16 (own_nn cv16)) e16 b12 f17 (by rw [hml]; rfl) [] [] rfl (lenOf own_pd4 rfl) rfl 0 (Nat.le_of_eq rfl) (by decide) (by decide) (Nat.le_of_ble_eq_true rfl) (Nat.le_of_ble_eq_true rfl) (hb hby at_84) ?_
  intro T20 Lc20 v20 X20 hQ20
  obtain ⟨rfl, N20q, e20⟩ := hQ20
  have N20 := Fr.app N16 N20q
  show own_Go _ _ _ _ (T20.setTop (mkF m 87 #[.val (.int p1), .val (.int p2), .val (.int p3), .val (.int p4), .val (.long p5), .second, .val (.long v6_2), .second, .val (.long v8_4), .second, .val (.long v10_6), .second, .val (.long v12_8), .second, .val (.long v14_9), .second, .val (.long v16_10), .second, .val (.long v18_11), .second, .val (.ref b12), .unset, .unset, .unset, .unset] [(.double (FP.dadd a16 c16))]))
  refine own_by (fun _ k => XS.lload X20.here hx rfl (hb hby at_87) rfl k) ?_
  show own_Go _ _ _ _ (T20.setTop (mkF m 89 #[.val (.int p1), .val (.int p2), .val (.int p3), .val (.int p4), .val (.long p5), .second, .val (.long v6_2), .second, .val (.long v8_4), .second, .val (.long v10_6), .second, .val (.long v12_8), .second, .val (.long v14_9), .second, .val (.long v16_10), .second, .val (.long v18_11), .second, .val (.ref b12), .unset, .unset, .unset, .unset] [(.long v6_2), (.double (FP.dadd a16 c16))]))
  refine own_by (fun _ k => XS.l2dS X20.here hx rfl (hb hby at_89) rfl rfl k) ?_
  show own_Go _ _ _ _ (T20.setTop (mkF m 90 #[.val (.int p1), .val (.int p2), .val (.int p3), .val (.int p4), .val (.long p5), .second, .val (.long v6_2), .second, .val (.long v8_4), .second, .val (.long v10_6), .second, .val (.long v12_8), .second, .val (.long v14_9), .second, .val (.long v16_10), .second, .val (.long v18_11), .second, .val (.ref b12), .unset, .unset, .unset, .unset] [(.double (FP.l2d v6_2)), (.double (FP.dadd a16 c16))]))
  refine own_by (fun _ k => XS.dcmpS X20.here hx rfl (hb hby at_90) rfl (own_cmp cv16 (own_l2d _)) k) ?_
  show own_Go _ _ _ _ (T20.setTop (mkF m 91 #[.val (.int p1), .val (.int p2), .val (.int p3), .val (.int p4), .val (.long p5), .second, .val (.long v6_2), .second, .val (.long v8_4), .second, .val (.long v10_6), .second, .val (.long v12_8), .second, .val (.long v14_9), .second, .val (.long v16_10), .second, .val (.long v18_11), .second, .val (.ref b12), .unset, .unset, .unset, .unset] [(.int (0 : Int32))]))
  refine own_by (fun _ k => XS.ifNo X20.here hx rfl (hb hby at_91) rfl ((if0 _ _).trans (teq (by decide)).2) k) ?_
  refine own_by (fun _ k => XS.iconst X20.here hx rfl (hb hby at_94) k) ?_
  show own_Go _ _ _ _ (T20.setTop (mkF m 95 #[.val (.int p1), .val (.int p2), .val (.int p3), .val (.int p4), .val (.long p5), .second, .val (.long v6_2), .second, .val (.long v8_4), .second, .val (.long v10_6), .second, .val (.long v12_8), .second, .val (.long v14_9), .second, .val (.long v16_10), .second, .val (.long v18_11), .second, .val (.ref b12), .unset, .unset, .unset, .unset] [(.int (1 : Int32))]))
  refine own_by (fun _ k => XS.goto X20.here hx rfl (pc0 := 95) (pc' := 99) rfl (hb hby at_95) (by decide) (by decide) k) ?_
  show own_Go _ _ _ _ (T20.setTop (mkF m 99 #[.val (.int p1), .val (.int p2), .val (.int p3), .val (.int p4), .val (.long p5), .second, .val (.long v6_2), .second, .val (.long v8_4), .second, .val (.long v10_6), .second, .val (.long v12_8), .second, .val (.long v14_9), .second, .val (.long v16_10), .second, .val (.long v18_11), .second, .val (.ref b12), .unset, .unset, .unset, .unset] [(.int (1 : Int32))]))
  refine own_by (fun _ k => XS.istore X20.here hx rfl (hb hby at_99) rfl (l' := #[.val (.int p1), .val (.int p2), .val (.int p3), .val (.int p4), .val (.long p5), .second, .val (.long v6_2), .second, .val (.long v8_4), .second, .val (.long v10_6), .second, .val (.long v12_8), .second, .val (.long v14_9), .second, .val (.long v16_10), .second, .val (.long v18_11), .second, .val (.ref b12), .val (.int (1 : Int32)), .unset, .unset, .unset]) rfl k) ?_
  refine own_by (fun _ k => XS.aload X20.here hx rfl (hb hby at_101) rfl rfl k) ?_
  refine own_by (fun _ k => XS.lload X20.here hx rfl (hb hby at_103) rfl k) ?_
  show own_Go _ _ _ _ (T20.setTop (mkF m 105 #[.val (.int p1), .val (.int p2), .val (.int p3), .val (.int p4), .val (.long p5), .second, .val (.long v6_2), .second, .val (.long v8_4), .second, .val (.long v10_6), .second, .val (.long v12_8), .second, .val (.long v14_9), .second, .val (.long v16_10), .second, .val (.long v18_11), .second, .val (.ref b12), .val (.int (1 : Int32)), .unset, .unset, .unset] [(.long v8_4), (.ref b12)]))
  refine own_by (fun _ k => XS.l2dS X20.here hx rfl (hb hby at_105) rfl rfl k) ?_
  show own_Go _ _ _ _ (T20.setTop (mkF m 106 #[.val (.int p1), .val (.int p2), .val (.int p3), .val (.int p4), .val (.long p5), .second, .val (.long v6_2), .second, .val (.long v8_4), .second, .val (.long v10_6), .second, .val (.long v12_8), .second, .val (.long v14_9), .second, .val (.long v16_10), .second, .val (.long v18_11), .second, .val (.ref b12), .val (.int (1 : Int32)), .unset, .unset, .unset] [(.double (FP.l2d v8_4)), (.ref b12)]))
  refine own_callV X20 hx hZ hown (hw _ (List.mem_of_getElem? (i := 14) rfl)) (hw _ (List.mem_of_getElem? (i := 15) rfl)) (notFace_of_selects (args := #[]) (mvT hZ (hw _ (List.mem_of_getElem? (i := 17) rfl)))) (hw _ (List.mem_of_getElem? (i := 17) rfl)) (hw _ (List.mem_of_getElem? (i := 16) rfl)) (hw _ (List.mem_of_getElem? (i := 7) rfl)) (hw _ (List.mem_of_getElem? (i := 18) rfl)) (by decide) (rm4 l Z a0 hw [] b12 (FP.l2d v8_4) a16 c16 s16 v8_4.toInt t16 h16 n0 Z16 f17 FS16 FL16 ge12 DS16 dy8 DL16 RS16.rep fw8 (by omega) bd8 (by omega) (by omega)) e20 b12 f17 (by rw [hml]; rfl) [(.double (FP.l2d v8_4))] [] rfl (lenOf own_pd3 rfl) rfl 0 (Nat.le_of_eq rfl) (by decide) (by decide) (Nat.le_of_ble_eq_true rfl) (Nat.le_of_ble_eq_true rfl) (hb hby at_106) ?_
  intro T21 Lc21 v21 X21 hQ21
  obtain ⟨h21, e21⟩ : ∃ h, T21.heap = h := ⟨_, rfl⟩
  rw [e21] at hQ21
  obtain ⟨rfl, N21q, K21, s21, a21, c21, RS21, FS21, FL21, DS21, DL21⟩ := hQ21
  have N21 := Fr.app N20 N21q
  have f22 := f17.keep K21
  have Z21 := Nat.le_trans Z16 K21.1
  obtain ⟨t21, ht21⟩ : ∃ z : Int, z = t16 + (s16 + v8_4.toInt - s21) := ⟨_, rfl⟩
  rw [← ht21] at DL21
  have nr21 := own_near2 RS21
  have iv21 : s21 + t21 = v6_2.toInt + v8_4.toInt := by omega
  have tb21 : -2048 ≤ t21 ∧ t21 ≤ 2048 := by omega
  show own_Go _ _ _ _ (T21.setTop (mkF m 109 #[.val (.int p1), .val (.int p2), .val (.int p3), .val (.int p4), .val (.long p5), .second, .val (.long v6_2), .second, .val (.long v8_4), .second, .val (.long v10_6), .second, .val (.long v12_8), .second, .val (.long v14_9), .second, .val (.long v16_10), .second, .val (.long v18_11), .second, .val (.ref b12), .val (.int (1 : Int32)), .unset, .unset, .unset] []))
  refine own_by (fun _ k => XS.aload X21.here hx rfl (hb hby at_109) rfl rfl k) ?_
  show own_Go _ _ _ _ (T21.setTop (mkF m 111 #[.val (.int p1), .val (.int p2), .val (.int p3), .val (.int p4), .val (.long p5), .second, .val (.long v6_2), .second, .val (.long v8_4), .second, .val (.long v10_6), .second, .val (.long v12_8), .second, .val (.long v14_9), .second, .val (.long v16_10), .second, .val (.long v18_11), .second, .val (.ref b12), .val (.int (1 : Int32)), .unset, .unset, .unset] [(.ref b12)]))
  have cv21 : Jvm.FP.Core.DInt (own_RI v14_9.toInt) (FP.dadd a21 c21) := by rw [show v14_9.toInt = s21 + t21 by omega]; exact own_dadd DS21 DL21 (by omega)
  refine own_callV X21 hx hZ hown (hw _ (List.mem_of_getElem? (i := 23) rfl)) (hw _ (List.mem_of_getElem? (i := 24) rfl)) (notFace_of_selects (args := #[]) (mvT hZ (hw _ (List.mem_of_getElem? (i := 26) rfl)))) (hw _ (List.mem_of_getElem? (i := 26) rfl)) (hw _ (List.mem_of_getElem? (i := 25) rfl)) (hw _ (List.mem_of_getElem? (i := 7) rfl)) (hw _ (List.mem_of_getElem? (i := 27) rfl)) (by decide) (rm5 l Z a0 hw [] b12 a21 c21 h21 n0 Z21 FS21 FL21 (own_nn cv21)) e21 b12 f22 (by rw [hml]; rfl) [] [] rfl (lenOf own_pd4 rfl) rfl 0 (Nat.le_of_eq rfl) (by decide) (by decide) (Nat.le_of_ble_eq_true rfl) (Nat.le_of_ble_eq_true rfl) (hb hby at_111) ?_
  intro T25 Lc25 v25 X25 hQ25
  obtain ⟨rfl, N25q, e25⟩ := hQ25
  have N25 := Fr.app N21 N25q
  show own_Go _ _ _ _ (T25.setTop (mkF m 114 #[.val (.int p1), .val (.int p2), .val (.int p3), .val (.int p4), .val (.long p5), .second, .val (.long v6_2), .second, .val (.long v8_4), .second, .val (.long v10_6), .second, .val (.long v12_8), .second, .val (.long v14_9), .second, .val (.long v16_10), .second, .val (.long v18_11), .second, .val (.ref b12), .val (.int (1 : Int32)), .unset, .unset, .unset] [(.double (FP.dadd a21 c21))]))
  refine own_by (fun _ k => XS.lload X25.here hx rfl (hb hby at_114) rfl k) ?_
  show own_Go _ _ _ _ (T25.setTop (mkF m 116 #[.val (.int p1), .val (.int p2), .val (.int p3), .val (.int p4), .val (.long p5), .second, .val (.long v6_2), .second, .val (.long v8_4), .second, .val (.long v10_6), .second, .val (.long v12_8), .second, .val (.long v14_9), .second, .val (.long v16_10), .second, .val (.long v18_11), .second, .val (.ref b12), .val (.int (1 : Int32)), .unset, .unset, .unset] [(.long v14_9), (.double (FP.dadd a21 c21))]))
  refine own_by (fun _ k => XS.l2dS X25.here hx rfl (hb hby at_116) rfl rfl k) ?_
  show own_Go _ _ _ _ (T25.setTop (mkF m 117 #[.val (.int p1), .val (.int p2), .val (.int p3), .val (.int p4), .val (.long p5), .second, .val (.long v6_2), .second, .val (.long v8_4), .second, .val (.long v10_6), .second, .val (.long v12_8), .second, .val (.long v14_9), .second, .val (.long v16_10), .second, .val (.long v18_11), .second, .val (.ref b12), .val (.int (1 : Int32)), .unset, .unset, .unset] [(.double (FP.l2d v14_9)), (.double (FP.dadd a21 c21))]))
  refine own_by (fun _ k => XS.dcmpS X25.here hx rfl (hb hby at_117) rfl (own_cmp cv21 (own_l2d _)) k) ?_
  show own_Go _ _ _ _ (T25.setTop (mkF m 118 #[.val (.int p1), .val (.int p2), .val (.int p3), .val (.int p4), .val (.long p5), .second, .val (.long v6_2), .second, .val (.long v8_4), .second, .val (.long v10_6), .second, .val (.long v12_8), .second, .val (.long v14_9), .second, .val (.long v16_10), .second, .val (.long v18_11), .second, .val (.ref b12), .val (.int (1 : Int32)), .unset, .unset, .unset] [(.int (0 : Int32))]))
  refine own_by (fun _ k => XS.ifNo X25.here hx rfl (hb hby at_118) rfl ((if0 _ _).trans (teq (by decide)).2) k) ?_
  refine own_by (fun _ k => XS.iconst X25.here hx rfl (hb hby at_121) k) ?_
  show own_Go _ _ _ _ (T25.setTop (mkF m 122 #[.val (.int p1), .val (.int p2), .val (.int p3), .val (.int p4), .val (.long p5), .second, .val (.long v6_2), .second, .val (.long v8_4), .second, .val (.long v10_6), .second, .val (.long v12_8), .second, .val (.long v14_9), .second, .val (.long v16_10), .second, .val (.long v18_11), .second, .val (.ref b12), .val (.int (1 : Int32)), .unset, .unset, .unset] [(.int (1 : Int32))]))
  refine own_by (fun _ k => XS.goto X25.here hx rfl (pc0 := 122) (pc' := 126) rfl (hb hby at_122) (by decide) (by decide) k) ?_
  show own_Go _ _ _ _ (T25.setTop (mkF m 126 #[.val (.int p1), .val (.int p2), .val (.int p3), .val (.int p4), .val (.long p5), .second, .val (.long v6_2), .second, .val (.long v8_4), .second, .val (.long v10_6), .second, .val (.long v12_8), .second, .val (.long v14_9), .second, .val (.long v16_10), .second, .val (.long v18_11), .second, .val (.ref b12), .val (.int (1 : Int32)), .unset, .unset, .unset] [(.int (1 : Int32))]))
  refine own_by (fun _ k => XS.istore X25.here hx rfl (hb hby at_126) rfl (l' := #[.val (.int p1), .val (.int p2), .val (.int p3), .val (.int p4), .val (.long p5), .second, .val (.long v6_2), .second, .val (.long v8_4), .second, .val (.long v10_6), .second, .val (.long v12_8), .second, .val (.long v14_9), .second, .val (.long v16_10), .second, .val (.long v18_11), .second, .val (.ref b12), .val (.int (1 : Int32)), .val (.int (1 : Int32)), .unset, .unset]) rfl k) ?_
  refine own_by (fun _ k => XS.aload X25.here hx rfl (hb hby at_128) rfl rfl k) ?_
  refine own_by (fun _ k => XS.lload X25.here hx rfl (hb hby at_130) rfl k) ?_
  show own_Go _ _ _ _ (T25.setTop (mkF m 132 #[.val (.int p1), .val (.int p2), .val (.int p3), .val (.int p4), .val (.long p5), .second, .val (.long v6_2), .second, .val (.long v8_4), .second, .val (.long v10_6), .second, .val (.long v12_8), .second, .val (.long v14_9), .second, .val (.long v16_10), .second, .val (.long v18_11), .second, .val (.ref b12), .val (.int (1 : Int32)), .val (.int (1 : Int32)), .unset, .unset] [(.long v10_6), (.ref b12)]))
  refine own_by (fun _ k => XS.l2dS X25.here hx rfl (hb hby at_132) rfl rfl k) ?_
  show own_Go _ _ _ _ (T25.setTop (mkF m 133 #[.val (.int p1), .val (.int p2), .val (.int p3), .val (.int p4), .val (.long p5), .second, .val (.long v6_2), .second, .val (.long v8_4), .second, .val (.long v10_6), .second, .val (.long v12_8), .second, .val (.long v14_9), .second, .val (.long v16_10), .second, .val (.long v18_11), .second, .val (.ref b12), .val (.int (1 : Int32)), .val (.int (1 : Int32)), .unset, .unset] [(.double (FP.l2d v10_6)), (.ref b12)]))
  refine own_callV X25 hx hZ hown (hw _ (List.mem_of_getElem? (i := 14) rfl)) (hw _ (List.mem_of_getElem? (i := 15) rfl)) (notFace_of_selects (args := #[]) (mvT hZ (hw _ (List.mem_of_getElem? (i := 17) rfl)))) (hw _ (List.mem_of_getElem? (i := 17) rfl)) (hw _ (List.mem_of_getElem? (i := 16) rfl)) (hw _ (List.mem_of_getElem? (i := 7) rfl)) (hw _ (List.mem_of_getElem? (i := 18) rfl)) (by decide) (rm4 l Z a0 hw [] b12 (FP.l2d v10_6) a21 c21 s21 v10_6.toInt t21 h21 n0 Z21 f22 FS21 FL21 ge12 DS21 dy10 DL21 RS21.rep fw10 (by omega) bd10 (by omega) (by omega)) e25 b12 f22 (by rw [hml]; rfl) [(.double (FP.l2d v10_6))] [] rfl (lenOf own_pd3 rfl) rfl 0 (Nat.le_of_eq rfl) (by decide) (by decide) (Nat.le_of_ble_eq_true rfl) (Nat.le_of_ble_eq_true rfl) (hb hby at_133) ?_
  intro T26 Lc26 v26 X26 hQ26
  obtain ⟨h26, e26⟩ : ∃ h, T26.heap = h := ⟨_, rfl⟩
  rw [e26] at hQ26
  obtain ⟨rfl, N26q, K26, s26, a26, c26, RS26, FS26, FL26, DS26, DL26⟩ := hQ26
  have N26 := Fr.app N25 N26q
  have f27 := f22.keep K26
  have Z26 := Nat.le_trans Z21 K26.1
  obtain ⟨t26, ht26⟩ : ∃ z : Int, z = t21 + (s21 + v10_6.toInt - s26) := ⟨_, rfl⟩
  rw [← ht26] at DL26
  have nr26 := own_near2 RS26
  have iv26 : s26 + t26 = v6_2.toInt + v8_4.toInt + v10_6.toInt := by omega
  have tb26 : -3072 ≤ t26 ∧ t26 ≤ 3072 := by omega
  show own_Go _ _ _ _ (T26.setTop (mkF m 136 #[.val (.int p1), .val (.int p2), .val (.int p3), .val (.int p4), .val (.long p5), .second, .val (.long v6_2), .second, .val (.long v8_4), .second, .val (.long v10_6), .second, .val (.long v12_8), .second, .val (.long v14_9), .second, .val (.long v16_10), .second, .val (.long v18_11), .second, .val (.ref b12), .val (.int (1 : Int32)), .val (.int (1 : Int32)), .unset, .unset] []))
  refine own_by (fun _ k => XS.aload X26.here hx rfl (hb hby at_136) rfl rfl k) ?_
  show own_Go _ _ _ _ (T26.setTop (mkF m 138 #[.val (.int p1), .val (.int p2), .val (.int p3), .val (.int p4), .val (.long p5), .second, .val (.long v6_2), .second, .val (.long v8_4), .second, .val (.long v10_6), .second, .val (.long v12_8), .second, .val (.long v14_9), .second, .val (.long v16_10), .second, .val (.long v18_11), .second, .val (.ref b12), .val (.int (1 : Int32)), .val (.int (1 : Int32)), .unset, .unset] [(.ref b12)]))
  have cv26 : Jvm.FP.Core.DInt (own_RI v16_10.toInt) (FP.dadd a26 c26) := by rw [show v16_10.toInt = s26 + t26 by omega]; exact own_dadd DS26 DL26 (by omega)
  refine own_callV X26 hx hZ hown (hw _ (List.mem_of_getElem? (i := 23) rfl)) (hw _ (List.mem_of_getElem? (i := 24) rfl)) (notFace_of_selects (args := #[]) (mvT hZ (hw _ (List.mem_of_getElem? (i := 26) rfl)))) (hw _ (List.mem_of_getElem? (i := 26) rfl)) (hw _ (List.mem_of_getElem? (i := 25) rfl)) (hw _ (List.mem_of_getElem? (i := 7) rfl)) (hw _ (List.mem_of_getElem? (i := 27) rfl)) (by decide) (rm5 l Z a0 hw [] b12 a26 c26 h26 n0 Z26 FS26 FL26 (own_nn cv26)) e26 b12 f27 (by rw [hml]; rfl) [] [] rfl (lenOf own_pd4 rfl) rfl 0 (Nat.le_of_eq rfl) (by decide) (by decide) (Nat.le_of_ble_eq_true rfl) (Nat.le_of_ble_eq_true rfl) (hb hby at_138) ?_
  intro T30 Lc30 v30 X30 hQ30
  obtain ⟨rfl, N30q, e30⟩ := hQ30
  have N30 := Fr.app N26 N30q
  show own_Go _ _ _ _ (T30.setTop (mkF m 141 #[.val (.int p1), .val (.int p2), .val (.int p3), .val (.int p4), .val (.long p5), .second, .val (.long v6_2), .second, .val (.long v8_4), .second, .val (.long v10_6), .second, .val (.long v12_8), .second, .val (.long v14_9), .second, .val (.long v16_10), .second, .val (.long v18_11), .second, .val (.ref b12), .val (.int (1 : Int32)), .val (.int (1 : Int32)), .unset, .unset] [(.double (FP.dadd a26 c26))]))
  refine own_by (fun _ k => XS.lload X30.here hx rfl (hb hby at_141) rfl k) ?_
  show own_Go _ _ _ _ (T30.setTop (mkF m 143 #[.val (.int p1), .val (.int p2), .val (.int p3), .val (.int p4), .val (.long p5), .second, .val (.long v6_2), .second, .val (.long v8_4), .second, .val (.long v10_6), .second, .val (.long v12_8), .second, .val (.long v14_9), .second, .val (.long v16_10), .second, .val (.long v18_11), .second, .val (.ref b12), .val (.int (1 : Int32)), .val (.int (1 : Int32)), .unset, .unset] [(.long v16_10), (.double (FP.dadd a26 c26))]))
  refine own_by (fun _ k => XS.l2dS X30.here hx rfl (hb hby at_143) rfl rfl k) ?_
  show own_Go _ _ _ _ (T30.setTop (mkF m 144 #[.val (.int p1), .val (.int p2), .val (.int p3), .val (.int p4), .val (.long p5), .second, .val (.long v6_2), .second, .val (.long v8_4), .second, .val (.long v10_6), .second, .val (.long v12_8), .second, .val (.long v14_9), .second, .val (.long v16_10), .second, .val (.long v18_11), .second, .val (.ref b12), .val (.int (1 : Int32)), .val (.int (1 : Int32)), .unset, .unset] [(.double (FP.l2d v16_10)), (.double (FP.dadd a26 c26))]))
  refine own_by (fun _ k => XS.dcmpS X30.here hx rfl (hb hby at_144) rfl (own_cmp cv26 (own_l2d _)) k) ?_
  show own_Go _ _ _ _ (T30.setTop (mkF m 145 #[.val (.int p1), .val (.int p2), .val (.int p3), .val (.int p4), .val (.long p5), .second, .val (.long v6_2), .second, .val (.long v8_4), .second, .val (.long v10_6), .second, .val (.long v12_8), .second, .val (.long v14_9), .second, .val (.long v16_10), .second, .val (.long v18_11), .second, .val (.ref b12), .val (.int (1 : Int32)), .val (.int (1 : Int32)), .unset, .unset] [(.int (0 : Int32))]))
  refine own_by (fun _ k => XS.ifNo X30.here hx rfl (hb hby at_145) rfl ((if0 _ _).trans (teq (by decide)).2) k) ?_
  refine own_by (fun _ k => XS.iconst X30.here hx rfl (hb hby at_148) k) ?_
  show own_Go _ _ _ _ (T30.setTop (mkF m 149 #[.val (.int p1), .val (.int p2), .val (.int p3), .val (.int p4), .val (.long p5), .second, .val (.long v6_2), .second, .val (.long v8_4), .second, .val (.long v10_6), .second, .val (.long v12_8), .second, .val (.long v14_9), .second, .val (.long v16_10), .second, .val (.long v18_11), .second, .val (.ref b12), .val (.int (1 : Int32)), .val (.int (1 : Int32)), .unset, .unset] [(.int (1 : Int32))]))
  refine own_by (fun _ k => XS.goto X30.here hx rfl (pc0 := 149) (pc' := 153) rfl (hb hby at_149) (by decide) (by decide) k) ?_
  show own_Go _ _ _ _ (T30.setTop (mkF m 153 #[.val (.int p1), .val (.int p2), .val (.int p3), .val (.int p4), .val (.long p5), .second, .val (.long v6_2), .second, .val (.long v8_4), .second, .val (.long v10_6), .second, .val (.long v12_8), .second, .val (.long v14_9), .second, .val (.long v16_10), .second, .val (.long v18_11), .second, .val (.ref b12), .val (.int (1 : Int32)), .val (.int (1 : Int32)), .unset, .unset] [(.int (1 : Int32))]))
  refine own_by (fun _ k => XS.istore X30.here hx rfl (hb hby at_153) rfl (l' := #[.val (.int p1), .val (.int p2), .val (.int p3), .val (.int p4), .val (.long p5), .second, .val (.long v6_2), .second, .val (.long v8_4), .second, .val (.long v10_6), .second, .val (.long v12_8), .second, .val (.long v14_9), .second, .val (.long v16_10), .second, .val (.long v18_11), .second, .val (.ref b12), .val (.int (1 : Int32)), .val (.int (1 : Int32)), .val (.int (1 : Int32)), .unset]) rfl k) ?_
  refine own_by (fun _ k => XS.aload X30.here hx rfl (hb hby at_155) rfl rfl k) ?_
  refine own_by (fun _ k => XS.lload X30.here hx rfl (hb hby at_157) rfl k) ?_
  show own_Go _ _ _ _ (T30.setTop (mkF m 159 #[.val (.int p1), .val (.int p2), .val (.int p3), .val (.int p4), .val (.long p5), .second, .val (.long v6_2), .second, .val (.long v8_4), .second, .val (.long v10_6), .second, .val (.long v12_8), .second, .val (.long v14_9), .second, .val (.long v16_10), .second, .val (.long v18_11), .second, .val (.ref b12), .val (.int (1 : Int32)), .val (.int (1 : Int32)), .val (.int (1 : Int32)), .unset] [(.long v12_8), (.ref b12)]))
  refine own_by (fun _ k => XS.l2dS X30.here hx rfl (hb hby at_159) rfl rfl k) ?_
  show own_Go _ _ _ _ (T30.setTop (mkF m 160 #[.val (.int p1), .val (.int p2), .val (.int p3), .val (.int p4), .val (.long p5), .second, .val (.long v6_2), .second, .val (.long v8_4), .second, .val (.long v10_6), .second, .val (.long v12_8), .second, .val (.long v14_9), .second, .val (.long v16_10), .second, .val (.long v18_11), .second, .val (.ref b12), .val (.int (1 : Int32)), .val (.int (1 : Int32)), .val (.int (1 : Int32)), .unset] [(.double (FP.l2d v12_8)), (.ref b12)]))
  refine own_callV X30 hx hZ hown (hw _ (List.mem_of_getElem? (i := 14) rfl)) (hw _ (List.mem_of_getElem? (i := 15) rfl)) (notFace_of_selects (args := #[]) (mvT hZ (hw _ (List.mem_of_getElem? (i := 17) rfl)))) (hw _ (List.mem_of_getElem? (i := 17) rfl)) (hw _ (List.mem_of_getElem? (i := 16) rfl)) (hw _ (List.mem_of_getElem? (i := 7) rfl)) (hw _ (List.mem_of_getElem? (i := 18) rfl)) (by decide) (rm4 l Z a0 hw [] b12 (FP.l2d v12_8) a26 c26 s26 v12_8.toInt t26 h26 n0 Z26 f27 FS26 FL26 ge12 DS26 dy12 DL26 RS26.rep fw12 (by omega) bd12 (by omega) (by omega)) e30 b12 f27 (by rw [hml]; rfl) [(.double (FP.l2d v12_8))] [] rfl (lenOf own_pd3 rfl) rfl 0 (Nat.le_of_eq rfl) (by decide) (by decide) (Nat.le_of_ble_eq_true rfl) (Nat.le_of_ble_eq_true rfl) (hb hby at_160) ?_
  intro T31 Lc31 v31 X31 hQ31
  obtain ⟨h31, e31⟩ : ∃ h, T31.heap = h := ⟨_, rfl⟩
  rw [e31] at hQ31
  obtain ⟨rfl, N31q, K31, s31, a31, c31, RS31, FS31, FL31, DS31, DL31⟩ := hQ31
  have N31 := Fr.app N30 N31q
  have f32 := f27.keep K31
  have Z31 := Nat.le_trans Z26 K31.1
  obtain ⟨t31, ht31⟩ : ∃ z : Int, z = t26 + (s26 + v12_8.toInt - s31) := ⟨_, rfl⟩
  rw [← ht31] at DL31
  have nr31 := own_near2 RS31
  have iv31 : s31 + t31 = v6_2.toInt + v8_4.toInt + v10_6.toInt + v12_8.toInt := by omega
  have tb31 : -4096 ≤ t31 ∧ t31 ≤ 4096 := by omega
  show own_Go _ _ _ _ (T31.setTop (mkF m 163 #[.val (.int p1), .val (.int p2), .val (.int p3), .val (.int p4), .val (.long p5), .second, .val (.long v6_2), .second, .val (.long v8_4), .second, .val (.long v10_6), .second, .val (.long v12_8), .second, .val (.long v14_9), .second, .val (.long v16_10), .second, .val (.long v18_11), .second, .val (.ref b12), .val (.int (1 : Int32)), .val (.int (1 : Int32)), .val (.int (1 : Int32)), .unset] []))
  refine own_by (fun _ k => XS.aload X31.here hx rfl (hb hby at_163) rfl rfl k) ?_
  show own_Go _ _ _ _ (T31.setTop (mkF m 165 #[.val (.int p1), .val (.int p2), .val (.int p3), .val (.int p4), .val (.long p5), .second, .val (.long v6_2), .second, .val (.long v8_4), .second, .val (.long v10_6), .second, .val (.long v12_8), .second, .val (.long v14_9), .second, .val (.long v16_10), .second, .val (.long v18_11), .second, .val (.ref b12), .val (.int (1 : Int32)), .val (.int (1 : Int32)), .val (.int (1 : Int32)), .unset] [(.ref b12)]))
  have cv31 : Jvm.FP.Core.DInt (own_RI v18_11.toInt) (FP.dadd a31 c31) := by rw [show v18_11.toInt = s31 + t31 by omega]; exact own_dadd DS31 DL31 (by omega)
  refine own_callV X31 hx hZ hown (hw _ (List.mem_of_getElem? (i := 23) rfl)) (hw _ (List.mem_of_getElem? (i := 24) rfl)) (notFace_of_selects (args := #[]) (mvT hZ (hw _ (List.mem_of_getElem? (i := 26) rfl)))) (hw _ (List.mem_of_getElem? (i := 26) rfl)) (hw _ (List.mem_of_getElem? (i := 25) rfl)) (hw _ (List.mem_of_getElem? (i := 7) rfl)) (hw _ (List.mem_of_getElem? (i := 27) rfl)) (by decide) (rm5 l Z a0 hw [] b12 a31 c31 h31 n0 Z31 FS31 FL31 (own_nn cv31)) e31 b12 f32 (by rw [hml]; rfl) [] [] rfl (lenOf own_pd4 rfl) rfl 0 (Nat.le_of_eq rfl) (by decide) (by decide) (Nat.le_of_ble_eq_true rfl) (Nat.le_of_ble_eq_true rfl) (hb hby at_165) ?_
  intro T35 Lc35 v35 X35 hQ35
  obtain ⟨rfl, N35q, e35⟩ := hQ35
  have N35 := Fr.app N31 N35q
  show own_Go _ _ _ _ (T35.setTop (mkF m 168 #[.val (.int p1), .val (.int p2), .val (.int p3), .val (.int p4), .val (.long p5), .second, .val (.long v6_2), .second, .val (.long v8_4), .second, .val (.long v10_6), .second, .val (.long v12_8), .second, .val (.long v14_9), .second, .val (.long v16_10), .second, .val (.long v18_11), .second, .val (.ref b12), .val (.int (1 : Int32)), .val (.int (1 : Int32)), .val (.int (1 : Int32)), .unset] [(.double (FP.dadd a31 c31))]))
  refine own_by (fun _ k => XS.lload X35.here hx rfl (hb hby at_168) rfl k) ?_
  show own_Go _ _ _ _ (T35.setTop (mkF m 170 #[.val (.int p1), .val (.int p2), .val (.int p3), .val (.int p4), .val (.long p5), .second, .val (.long v6_2), .second, .val (.long v8_4), .second, .val (.long v10_6), .second, .val (.long v12_8), .second, .val (.long v14_9), .second, .val (.long v16_10), .second, .val (.long v18_11), .second, .val (.ref b12), .val (.int (1 : Int32)), .val (.int (1 : Int32)), .val (.int (1 : Int32)), .unset] [(.long v18_11), (.double (FP.dadd a31 c31))]))
  refine own_by (fun _ k => XS.l2dS X35.here hx rfl (hb hby at_170) rfl rfl k) ?_
  show own_Go _ _ _ _ (T35.setTop (mkF m 171 #[.val (.int p1), .val (.int p2), .val (.int p3), .val (.int p4), .val (.long p5), .second, .val (.long v6_2), .second, .val (.long v8_4), .second, .val (.long v10_6), .second, .val (.long v12_8), .second, .val (.long v14_9), .second, .val (.long v16_10), .second, .val (.long v18_11), .second, .val (.ref b12), .val (.int (1 : Int32)), .val (.int (1 : Int32)), .val (.int (1 : Int32)), .unset] [(.double (FP.l2d v18_11)), (.double (FP.dadd a31 c31))]))
  refine own_by (fun _ k => XS.dcmpS X35.here hx rfl (hb hby at_171) rfl (own_cmp cv31 (own_l2d _)) k) ?_
  show own_Go _ _ _ _ (T35.setTop (mkF m 172 #[.val (.int p1), .val (.int p2), .val (.int p3), .val (.int p4), .val (.long p5), .second, .val (.long v6_2), .second, .val (.long v8_4), .second, .val (.long v10_6), .second, .val (.long v12_8), .second, .val (.long v14_9), .second, .val (.long v16_10), .second, .val (.long v18_11), .second, .val (.ref b12), .val (.int (1 : Int32)), .val (.int (1 : Int32)), .val (.int (1 : Int32)), .unset] [(.int (0 : Int32))]))
  refine own_by (fun _ k => XS.ifNo X35.here hx rfl (hb hby at_172) rfl ((if0 _ _).trans (teq (by decide)).2) k) ?_
  refine own_by (fun _ k => XS.iconst X35.here hx rfl (hb hby at_175) k) ?_
  show own_Go _ _ _ _ (T35.setTop (mkF m 176 #[.val (.int p1), .val (.int p2), .val (.int p3), .val (.int p4), .val (.long p5), .second, .val (.long v6_2), .second, .val (.long v8_4), .second, .val (.long v10_6), .second, .val (.long v12_8), .second, .val (.long v14_9), .second, .val (.long v16_10), .second, .val (.long v18_11), .second, .val (.ref b12), .val (.int (1 : Int32)), .val (.int (1 : Int32)), .val (.int (1 : Int32)), .unset] [(.int (1 : Int32))]))
  refine own_by (fun _ k => XS.goto X35.here hx rfl (pc0 := 176) (pc' := 180) rfl (hb hby at_176) (by decide) (by decide) k) ?_
  show own_Go _ _ _ _ (T35.setTop (mkF m 180 #[.val (.int p1), .val (.int p2), .val (.int p3), .val (.int p4), .val (.long p5), .second, .val (.long v6_2), .second, .val (.long v8_4), .second, .val (.long v10_6), .second, .val (.long v12_8), .second, .val (.long v14_9), .second, .val (.long v16_10), .second, .val (.long v18_11), .second, .val (.ref b12), .val (.int (1 : Int32)), .val (.int (1 : Int32)), .val (.int (1 : Int32)), .unset] [(.int (1 : Int32))]))
  refine own_by (fun _ k => XS.istore X35.here hx rfl (hb hby at_180) rfl (l' := #[.val (.int p1), .val (.int p2), .val (.int p3), .val (.int p4), .val (.long p5), .second, .val (.long v6_2), .second, .val (.long v8_4), .second, .val (.long v10_6), .second, .val (.long v12_8), .second, .val (.long v14_9), .second, .val (.long v16_10), .second, .val (.long v18_11), .second, .val (.ref b12), .val (.int (1 : Int32)), .val (.int (1 : Int32)), .val (.int (1 : Int32)), .val (.int (1 : Int32))]) rfl k) ?_
  refine own_by (fun _ k => XS.iload X35.here hx rfl (hb hby at_182) rfl k) ?_
  refine own_by (fun _ k => XS.iload X35.here hx rfl (hb hby at_184) rfl k) ?_
  show own_Go _ _ _ _ (T35.setTop (mkF m 186 #[.val (.int p1), .val (.int p2), .val (.int p3), .val (.int p4), .val (.long p5), .second, .val (.long v6_2), .second, .val (.long v8_4), .second, .val (.long v10_6), .second, .val (.long v12_8), .second, .val (.long v14_9), .second, .val (.long v16_10), .second, .val (.long v18_11), .second, .val (.ref b12), .val (.int (1 : Int32)), .val (.int (1 : Int32)), .val (.int (1 : Int32)), .val (.int (1 : Int32))] [(.int (1 : Int32)), (.int (1 : Int32))]))
  refine own_by (fun _ k => XS.iand X35.here hx rfl (hb hby at_186) rfl k) ?_
  show own_Go _ _ _ _ (T35.setTop (mkF m 187 #[.val (.int p1), .val (.int p2), .val (.int p3), .val (.int p4), .val (.long p5), .second, .val (.long v6_2), .second, .val (.long v8_4), .second, .val (.long v10_6), .second, .val (.long v12_8), .second, .val (.long v14_9), .second, .val (.long v16_10), .second, .val (.long v18_11), .second, .val (.ref b12), .val (.int (1 : Int32)), .val (.int (1 : Int32)), .val (.int (1 : Int32)), .val (.int (1 : Int32))] [(.int ((1 : Int32) &&& (1 : Int32)))]))
  rw [(by decide : ((1 : Int32) &&& (1 : Int32)) = (1 : Int32))]
  refine own_by (fun _ k => XS.iload X35.here hx rfl (hb hby at_187) rfl k) ?_
  show own_Go _ _ _ _ (T35.setTop (mkF m 189 #[.val (.int p1), .val (.int p2), .val (.int p3), .val (.int p4), .val (.long p5), .second, .val (.long v6_2), .second, .val (.long v8_4), .second, .val (.long v10_6), .second, .val (.long v12_8), .second, .val (.long v14_9), .second, .val (.long v16_10), .second, .val (.long v18_11), .second, .val (.ref b12), .val (.int (1 : Int32)), .val (.int (1 : Int32)), .val (.int (1 : Int32)), .val (.int (1 : Int32))] [(.int (1 : Int32)), (.int (1 : Int32))]))
  refine own_by (fun _ k => XS.iand X35.here hx rfl (hb hby at_189) rfl k) ?_
  show own_Go _ _ _ _ (T35.setTop (mkF m 190 #[.val (.int p1), .val (.int p2), .val (.int p3), .val (.int p4), .val (.long p5), .second, .val (.long v6_2), .second, .val (.long v8_4), .second, .val (.long v10_6), .second, .val (.long v12_8), .second, .val (.long v14_9), .second, .val (.long v16_10), .second, .val (.long v18_11), .second, .val (.ref b12), .val (.int (1 : Int32)), .val (.int (1 : Int32)), .val (.int (1 : Int32)), .val (.int (1 : Int32))] [(.int ((1 : Int32) &&& (1 : Int32)))]))
  rw [(by decide : ((1 : Int32) &&& (1 : Int32)) = (1 : Int32))]
  refine own_by (fun _ k => XS.iload X35.here hx rfl (hb hby at_190) rfl k) ?_
  show own_Go _ _ _ _ (T35.setTop (mkF m 192 #[.val (.int p1), .val (.int p2), .val (.int p3), .val (.int p4), .val (.long p5), .second, .val (.long v6_2), .second, .val (.long v8_4), .second, .val (.long v10_6), .second, .val (.long v12_8), .second, .val (.long v14_9), .second, .val (.long v16_10), .second, .val (.long v18_11), .second, .val (.ref b12), .val (.int (1 : Int32)), .val (.int (1 : Int32)), .val (.int (1 : Int32)), .val (.int (1 : Int32))] [(.int (1 : Int32)), (.int (1 : Int32))]))
  refine own_by (fun _ k => XS.iand X35.here hx rfl (hb hby at_192) rfl k) ?_
  show own_Go _ _ _ _ (T35.setTop (mkF m 193 #[.val (.int p1), .val (.int p2), .val (.int p3), .val (.int p4), .val (.long p5), .second, .val (.long v6_2), .second, .val (.long v8_4), .second, .val (.long v10_6), .second, .val (.long v12_8), .second, .val (.long v14_9), .second, .val (.long v16_10), .second, .val (.long v18_11), .second, .val (.ref b12), .val (.int (1 : Int32)), .val (.int (1 : Int32)), .val (.int (1 : Int32)), .val (.int (1 : Int32))] [(.int ((1 : Int32) &&& (1 : Int32)))]))
  rw [(by decide : ((1 : Int32) &&& (1 : Int32)) = (1 : Int32))]
  show own_Go _ _ _ _ (T35.setTop (mkF m 193 #[.val (.int p1), .val (.int p2), .val (.int p3), .val (.int p4), .val (.long p5), .second, .val (.long v6_2), .second, .val (.long v8_4), .second, .val (.long v10_6), .second, .val (.long v12_8), .second, .val (.long v14_9), .second, .val (.long v16_10), .second, .val (.long v18_11), .second, .val (.ref b12), .val (.int (1 : Int32)), .val (.int (1 : Int32)), .val (.int (1 : Int32)), .val (.int (1 : Int32))] [(.int (1 : Int32))]))
  exact own_retN X35 hx Bd.notSynchronized e35 Bd.returns (by simp) (hb hby at_193) (⟨rfl, N35⟩) (by decide) (by decide)
set_option maxRecDepth 65536 in
set_option maxHeartbeats 40000000 in
theorem comes_1 {Post : Tables → Env → Array Value → State → Outcome → State → Prop} (hpost : ∀ tb e args s v u, (limb_1_1.after args s (.returned v) u = true ∧ limb_1_2.after args s (.returned v) u = true ∧ True) → FrameEnd s (.returned v) u (Jvm.fieldLocs frame_1_writes args s ++ Jvm.arrayLocs frame_1_arrays args s ++ Jvm.staticLocs frame_1_statics s) 16 128 → Post tb e args s (.returned v) u) :
    ArmFor flags0 classFile x code maxLocals ret World_1 tables_1 room_1 Calls_1 rest_1 Pre_1 Post := by
  intro l hfl _ _ p e ha hc hk s m args below hf hA hF happ hP
  obtain ⟨hcalls, hrest, hpre⟩ := hP
  obtain ⟨-, -, -, hnamed, -, -, -, hat⟩ := (Spec.applies_iff hf).mp happ
  obtain ⟨hg, hn⟩ := and_e (Cond.before_iff.mp (show (Jvm.Cond.and given_1 narrow_1).before args s = true from hpre))
  obtain ⟨g1, g2⟩ := and_e hg
  obtain ⟨g3, g4⟩ := and_e g2
  obtain ⟨g5, g6⟩ := and_e g4
  obtain ⟨g7, g8⟩ := and_e g6
  obtain ⟨g9, g10⟩ := and_e g8
  obtain ⟨w0, w1, w2, w3, w4, rfl⟩ : ∃ w0 w1 w2 w3 w4 : Value, args = #[w0, w1, w2, w3, w4] := by
    have hs : args.size = 5 := by simpa [Cond.value, given_1] using g1
    obtain ⟨L⟩ := args
    match L, hs with
    | [w0, w1, w2, w3, w4], _ => exact ⟨w0, w1, w2, w3, w4, rfl⟩
  have hw := fun d (hd : d ∈ tables_1) => atoms_spec (ws := Jvm.Cond.code x code maxLocals ret :: tables_1) hat d (List.mem_cons_of_mem _ hd)
  have hfit : Fit s := fun {y c} hc i hi => by
    obtain ⟨ha, rfl⟩ := Array.getElem?_eq_some_iff.mp hc
    have q := List.all_eq_true.mp ((Array.all_eq_true_iff_forall_mem.mp hF) _ (Array.getElem_mem ha)) i (List.mem_range.mpr hi)
    simpa [Array.getElem?_eq_getElem hi] using q
  obtain ⟨i0, ei0⟩ := is_v g3
  obtain rfl : w0 = (.int i0) := Option.some.inj ei0
  obtain ⟨i1, ei1⟩ := is_v g5
  obtain rfl : w1 = (.int i1) := Option.some.inj ei1
  obtain ⟨i2, ei2⟩ := is_v g7
  obtain rfl : w2 = (.int i2) := Option.some.inj ei2
  obtain ⟨i3, ei3⟩ := is_v g9
  obtain rfl : w3 = (.int i3) := Option.some.inj ei3
  obtain ⟨i4, ei4⟩ := isL_v g10
  obtain rfl : w4 = (.long i4) := Option.some.inj ei4
  obtain ⟨n, o, h1, h2, h3, _, L, rfl, ⟨rfl, N⟩, hq⟩ := rm0 l s _ hw tables_1 i0 i1 i2 i3 i4 s.heap s.heap.size (Nat.le_refl _) p e ha hc hk s m _ below hf ((Spec.applies_iff_loose hf).mp happ).1 ⟨rfl, State.Warmed39.refl s, rfl⟩ trivial
  refine ⟨n, _, h1, h2, h3, hpost _ _ _ _ _ _ ⟨Cond.after_iff.mpr rfl, Cond.after_iff.mpr (eq_i res_at (Term.int_eval (1)) rfl), trivial⟩ ⟨hq.1, hq.2.1, (hq.2.2.sift fun y hy => Or.inr (N y hy)).mono (by decide) (by decide)⟩⟩
theorem main_1_1 : Claimed_1_1 := comes_1 fun _ _ _ _ _ _ h hF => ⟨h.1, hF⟩
theorem main_1_2 : Claimed_1_2 := comes_1 fun _ _ _ _ _ _ h hF => ⟨h.2.1, hF⟩
end Jvm.Pilot.@@N@@
namespace Jvm.Pilot.@@N@@
open Jvm Jvm.ClassFile Sem Op Lib Jvm.Free Jvm.Stand Jvm.Pilot.@@N@@.Jvm.D
/-! MADE BY PROGRAM (witnessworld.py) out of the Statement's table words and the real class files: 9 classes; the members and pool entries that the words name. The judged class is class 1, her method 1. -/
namespace start1
open Jvm.ClassFile
def u (s : String) : CpInfo := .utf8 (stringToUtf16 s)
/-- a pool by its gaps: so many unusable entries, then the entry; so many at the end -/
def gap : Nat → List CpInfo → List CpInfo
  | 0, r => r
  | n + 1, r => .unusable :: gap n r
def poolList (es : List (Nat × CpInfo)) (last : Nat) : List CpInfo := es.foldr (fun e r => gap e.1 (e.2 :: r)) (gap last [])
def pool (es : List (Nat × CpInfo)) (last : Nat) : Array CpInfo := ⟨poolList es last⟩
def fileOf (pool : Array CpInfo) (this : Nat) (attrs : Array Attribute := #[]) (ms : Array MethodInfo := #[]) (fl : Nat := 33) (sup : Nat := 0) (ifs : Array Nat := #[]) (fds : Array FieldInfo := #[]) : ClassFile where
  minorVersion := 0
  majorVersion := 65
  constantPool := pool
  accessFlags := fl
  thisClass := this
  superClass := sup
  interfaces := ifs
  fields := fds
  methods := ms
  attributes := attrs
def plain (name : String) (sup : Option ClassId) : Class where
  name := name
  kind := .ordinary
  loader := none
  accessFlags := 33
  super := sup
  interfaces := #[]
  cf := none
  fields := #[]
  methods := #[]
  instanceTypes := #[]
  staticTypes := #[]
  resolved := #[]
  callSites := []
  init := .initialized
  statics := none
  mirror := none

def pool0 : Array CpInfo := pool [(5, u "<init>"), (0, u "()V"), (1, .class_ 10), (1, u "java/lang/Object")] 113

def k0c0 : Code := { maxStack := 0, maxLocals := 1, code := object_method_1_code, exceptionTable := #[], attributes := #[] }
def k0m0 : Method := { name := "<init>", desc := "()V", sig := { parameters := [], returnType := none }, accessFlags := 1, code := some k0c0 }
/-- java/lang/Object -/
def k0 : Class := { plain "java/lang/Object" none with
  accessFlags := 33
  interfaces := #[]
  cf := some (fileOf pool0 8 #[] #[{ accessFlags := 1, nameIndex := 5, descriptorIndex := 6, attributes := #[] }] 33 0 #[] #[])
  fields := #[]
  methods := #[k0m0]
  instanceTypes := #[]
  staticTypes := #[]
  resolved := Array.replicate 124 none
  statics := none }

def pool1 : Array CpInfo := pool [(2, .class_ 4), (0, .nameAndType 5 6), (0, u "java/lang/Object"), (0, u "<init>"), (0, u "()V"), (0, .methodref 8 9), (0, .class_ 10), (0, .nameAndType 11 12), (0, u "com/example/link_prestige/linkprestige/CompensatedSumAddPinLaw"), (0, u "shift"), (0, u "(JI)I"), (0, .class_ 14), (0, u "com/example/link_prestige/linkprestige/CompensatedSum"), (0, .methodref 13 3), (0, .methodref 13 17), (0, .nameAndType 18 19), (0, u "add"), (0, u "(D)V"), (0, .methodref 13 21), (0, .nameAndType 22 23), (0, u "value"), (0, u "()D"), (0, .long 31), (3, u "law"), (0, u "(IIIIJ)Z")] 3

def k1m0 : Method := { name := "<init>", desc := "()V", sig := { parameters := [], returnType := none }, accessFlags := 1, code := none }
def k1c1 : Code := { maxStack := 5, maxLocals := 25, code := code, exceptionTable := #[], attributes := #[] }
def k1m1 : Method := { name := "law", desc := "(IIIIJ)Z", sig := { parameters := [.int, .int, .int, .int, .long], returnType := some .boolean }, accessFlags := 9, code := some k1c1 }
def k1c2 : Code := { maxStack := 4, maxLocals := 3, code := method_3_code, exceptionTable := #[], attributes := #[] }
def k1m2 : Method := { name := "shift", desc := "(JI)I", sig := { parameters := [.long, .int], returnType := some .int }, accessFlags := 10, code := some k1c2 }
/-- com/example/link_prestige/linkprestige/CompensatedSumAddPinLaw -/
def k1 : Class := { plain "com/example/link_prestige/linkprestige/CompensatedSumAddPinLaw" (some 0) with
  accessFlags := 49
  interfaces := #[]
  cf := some (fileOf pool1 8 #[] #[{ accessFlags := 1, nameIndex := 5, descriptorIndex := 6, attributes := #[] }, { accessFlags := 9, nameIndex := 28, descriptorIndex := 29, attributes := #[] }, { accessFlags := 10, nameIndex := 11, descriptorIndex := 12, attributes := #[] }] 49 2 #[] #[])
  fields := #[]
  methods := #[k1m0, k1m1, k1m2]
  instanceTypes := #[]
  staticTypes := #[]
  resolved := Array.replicate 33 none
  statics := none }

def pool2 : Array CpInfo := pool [(1, .methodref 2 3), (0, .class_ 4), (0, .nameAndType 5 6), (0, u "java/lang/Object"), (0, u "<init>"), (0, u "()V"), (0, .fieldref 8 9), (0, .class_ 10), (0, .nameAndType 11 12), (0, u "com/example/link_prestige/linkprestige/CompensatedSum"), (0, u "sum"), (0, u "D"), (0, .fieldref 8 14), (0, .nameAndType 15 12), (0, u "lost"), (2, u "add"), (0, u "(D)V"), (0, u "value"), (0, u "()D")] 2

def k2c0 : Code := { maxStack := 1, maxLocals := 1, code := prog_9_method_1_code, exceptionTable := #[], attributes := #[] }
def k2m0 : Method := { name := "<init>", desc := "()V", sig := { parameters := [], returnType := none }, accessFlags := 0, code := some k2c0 }
def k2c1 : Code := { maxStack := 9, maxLocals := 7, code := prog_9_method_2_code, exceptionTable := #[], attributes := #[] }
def k2m1 : Method := { name := "add", desc := "(D)V", sig := { parameters := [.double], returnType := none }, accessFlags := 0, code := some k2c1 }
def k2c2 : Code := { maxStack := 4, maxLocals := 1, code := prog_9_method_3_code, exceptionTable := #[], attributes := #[] }
def k2m2 : Method := { name := "value", desc := "()D", sig := { parameters := [], returnType := some .double }, accessFlags := 0, code := some k2c2 }
/-- com/example/link_prestige/linkprestige/CompensatedSum -/
def k2 : Class := { plain "com/example/link_prestige/linkprestige/CompensatedSum" (some 0) with
  accessFlags := 32
  interfaces := #[]
  cf := some (fileOf pool2 8 #[] #[{ accessFlags := 0, nameIndex := 5, descriptorIndex := 6, attributes := #[] }, { accessFlags := 0, nameIndex := 18, descriptorIndex := 19, attributes := #[] }, { accessFlags := 0, nameIndex := 20, descriptorIndex := 21, attributes := #[] }] 32 2 #[] #[{ accessFlags := 2, nameIndex := 11, descriptorIndex := 12, attributes := #[] }, { accessFlags := 2, nameIndex := 15, descriptorIndex := 12, attributes := #[] }])
  fields := #[{ name := "sum", type := .double, accessFlags := 2, slot := 0, constantValue := 0 }, { name := "lost", type := .double, accessFlags := 2, slot := 1, constantValue := 0 }]
  methods := #[k2m0, k2m1, k2m2]
  instanceTypes := #[.double, .double]
  staticTypes := #[]
  resolved := Array.replicate 24 none
  statics := none }

def pool3 : Array CpInfo := pool [(1, u "java/lang/Cloneable"), (0, .class_ 1), (0, u "java/lang/Object"), (0, .class_ 3)] 3

/-- java/lang/Cloneable -/
def k3 : Class := { plain "java/lang/Cloneable" (some 0) with
  accessFlags := 1537
  interfaces := #[]
  cf := some (fileOf pool3 2 #[] #[] 1537 4 #[] #[])
  fields := #[]
  methods := #[]
  instanceTypes := #[]
  staticTypes := #[]
  resolved := Array.replicate 8 none
  statics := none }

def pool4 : Array CpInfo := pool [(1, u "java/io/Serializable"), (0, .class_ 1), (0, u "java/lang/Object"), (0, .class_ 3)] 3

/-- java/io/Serializable -/
def k4 : Class := { plain "java/io/Serializable" (some 0) with
  accessFlags := 1537
  interfaces := #[]
  cf := some (fileOf pool4 2 #[] #[] 1537 4 #[] #[])
  fields := #[]
  methods := #[]
  instanceTypes := #[]
  staticTypes := #[]
  resolved := Array.replicate 8 none
  statics := none }

/-- the primitive byte -/
def k5 : Class := { plain "byte" none with kind := .primitive 'B', accessFlags := 0x411 }
/-- [B -/
def k6 : Class := { plain "[B" (some 0) with kind := .array 5 .byte, interfaces := #[3, 4], accessFlags := 1041 }

/-- the primitive int -/
def k7 : Class := { plain "int" none with kind := .primitive 'I', accessFlags := 0x411 }
/-- [I -/
def k8 : Class := { plain "[I" (some 0) with kind := .array 7 .int, interfaces := #[3, 4], accessFlags := 1041 }

def heap : Heap := #[]
def classes : Array Class := #[k0, k1, k2, k3, k4, k5, k6, k7, k8]
def interned : List (Array UInt16 × Addr) := []
def slotsUsed : Nat := 0
def theMethod : MethodId := ⟨1, 1⟩
def args0 : Array Value := #[.int 5, .int 6, .int 7, .int 8, .long 9]
def aboutOver (below : List Frame) : State where
  vm := { classes := classes, interned := interned.toArray }
  heap := heap
  slotsUsed := slotsUsed
  threads := #[{ frames := .invoking theMethod args0 :: below }]
def below0 : List Frame := [.native { method := ⟨0, 0⟩, args := #[] }]
def about1 : State := aboutOver below0
def p0 : Program := .bare "" "" ""
def e0 : Env := launch0.env 0 0 0
theorem w_frames : about1.frames = Frame.invoking theMethod args0 :: below0 := rfl
set_option maxRecDepth 65536 in
theorem w_args : argsFit about1.vm theMethod args0 = true := by decide +kernel
set_option maxRecDepth 65536 in
theorem w_heap : heapFits about1 = true := by decide +kernel
set_option maxRecDepth 65536 in
theorem w_runnable : about1.curStatus? = some .runnable := by decide +kernel
set_option maxRecDepth 65536 in
theorem w_alone : about1.alone = true := by decide +kernel
set_option maxRecDepth 65536 in
theorem w_named : about1.methodNamed? x = some theMethod := by decide +kernel
set_option maxRecDepth 65536 in
theorem w_hears : about1.hears theMethod below0 = true := by decide +kernel
set_option maxRecDepth 65536 in
theorem w_ripe : about1.ripe theMethod args0 below0 = true := by decide +kernel
theorem w_running : about1.status = .running := rfl
set_option maxRecDepth 65536 in
theorem w_room : about1.hasRoom e0.platform room_1 = true :=
  launch0.hasRoom_least _ room_1 (by decide +kernel) (by decide +kernel) (by decide +kernel) (by decide +kernel) (by decide +kernel) (by decide +kernel)
theorem allAtoms_all (ts : List Jvm.Cond) (a : Array Jvm.Value) (st : Jvm.State) : (allAtoms ts).before a st = ts.all (fun c => c.before a st) := by
  induction ts with
  | nil => rfl
  | cons c t ih =>
    show (Jvm.Cond.and c (allAtoms t)).before a st = _
    rw [Jvm.Cond.before_and, ih, List.all_cons]
def words1 : List Jvm.Cond := Jvm.Cond.code x code maxLocals ret :: tables_1
/-- a 'code' word, met by the world's own term for the bytes: nothing is compared byte by byte -/
theorem code_word {y : MethodName} {bytes : ByteArray} {mx : Nat} {rt : Option FieldType} {a : Array Value} {s : State} {m : MethodId} {meth : Method} {c : Code} (h1 : s.methodNamed? y = some m) (h2 : s.vm.method? m = some meth) (h3 : meth.code = some c) (h4 : c.code = bytes)
    (h5 : (c.maxLocals == mx && c.exceptionTable.isEmpty && decide (c.maxStack ≤ mostOperands) && decide (meth.sig.returnType = rt) && !meth.locks && decide (parseMethodDescriptor y.desc = some meth.sig)) = true) : (Jvm.Cond.code y bytes mx rt).before a s = true := by
  simp only [Bool.and_eq_true, beq_iff_eq, Bool.not_eq_true', decide_eq_true_eq] at h5
  obtain ⟨⟨⟨⟨⟨g1, g2⟩, g3⟩, g4⟩, g5⟩, g6⟩ := h5
  simp [Cond.before, Cond.holds, Cond.value, h1, h2, h3, h4, g1, g2, g3, g4, g5, g6]
def isCode : Jvm.Cond → Bool
  | .code _ _ _ _ => true
  | _ => false
theorem all_split {L : List Jvm.Cond} {P : Jvm.Cond → Bool} (h1 : L.all (fun c => isCode c || P c) = true) (h2 : ∀ c ∈ L.filter isCode, P c = true) : L.all P = true := by
  refine List.all_eq_true.mpr fun c hc => ?_
  have h := List.all_eq_true.mp h1 c hc
  rcases Bool.eq_false_or_eq_true (isCode c) with hi | hi
  · exact h2 c (List.mem_filter.mpr ⟨hc, hi⟩)
  · simpa [hi] using h
set_option maxRecDepth 65536 in
theorem w_c0 : (Jvm.Cond.code x code maxLocals ret).before args0 about1 = true := code_word (m := ⟨1, 1⟩) (meth := k1m1) (c := k1c1) (by decide +kernel) rfl rfl rfl (by decide +kernel)
set_option maxRecDepth 65536 in
theorem w_c1 : (Jvm.Cond.code ({ cls := "com/example/link_prestige/linkprestige/CompensatedSumAddPinLaw", name := "shift", desc := "(JI)I" } : Jvm.MethodName) method_3_code (3 : Nat) (Option.some Jvm.ClassFile.FieldType.int)).before args0 about1 = true := code_word (m := ⟨1, 2⟩) (meth := k1m2) (c := k1c2) (by decide +kernel) rfl rfl rfl (by decide +kernel)
set_option maxRecDepth 65536 in
theorem w_c2 : (Jvm.Cond.code ({ cls := "com/example/link_prestige/linkprestige/CompensatedSum", name := "<init>", desc := "()V" } : Jvm.MethodName) prog_9_method_1_code (1 : Nat) (Option.none : Option Jvm.ClassFile.FieldType)).before args0 about1 = true := code_word (m := ⟨2, 0⟩) (meth := k2m0) (c := k2c0) (by decide +kernel) rfl rfl rfl (by decide +kernel)
set_option maxRecDepth 65536 in
theorem w_c3 : (Jvm.Cond.code ({ cls := "java/lang/Object", name := "<init>", desc := "()V" } : Jvm.MethodName) object_method_1_code (1 : Nat) (Option.none : Option Jvm.ClassFile.FieldType)).before args0 about1 = true := code_word (m := ⟨0, 0⟩) (meth := k0m0) (c := k0c0) (by decide +kernel) rfl rfl rfl (by decide +kernel)
set_option maxRecDepth 65536 in
theorem w_c4 : (Jvm.Cond.code ({ cls := "com/example/link_prestige/linkprestige/CompensatedSum", name := "add", desc := "(D)V" } : Jvm.MethodName) prog_9_method_2_code (7 : Nat) (Option.none : Option Jvm.ClassFile.FieldType)).before args0 about1 = true := code_word (m := ⟨2, 1⟩) (meth := k2m1) (c := k2c1) (by decide +kernel) rfl rfl rfl (by decide +kernel)
set_option maxRecDepth 65536 in
theorem w_c5 : (Jvm.Cond.code ({ cls := "com/example/link_prestige/linkprestige/CompensatedSum", name := "value", desc := "()D" } : Jvm.MethodName) prog_9_method_3_code (1 : Nat) (Option.some Jvm.ClassFile.FieldType.double)).before args0 about1 = true := code_word (m := ⟨2, 2⟩) (meth := k2m2) (c := k2c2) (by decide +kernel) rfl rfl rfl (by decide +kernel)
def codes1 : List Jvm.Cond := [Jvm.Cond.code x code maxLocals ret, Jvm.Cond.code ({ cls := "com/example/link_prestige/linkprestige/CompensatedSumAddPinLaw", name := "shift", desc := "(JI)I" } : Jvm.MethodName) method_3_code (3 : Nat) (Option.some Jvm.ClassFile.FieldType.int), Jvm.Cond.code ({ cls := "com/example/link_prestige/linkprestige/CompensatedSum", name := "<init>", desc := "()V" } : Jvm.MethodName) prog_9_method_1_code (1 : Nat) (Option.none : Option Jvm.ClassFile.FieldType), Jvm.Cond.code ({ cls := "java/lang/Object", name := "<init>", desc := "()V" } : Jvm.MethodName) object_method_1_code (1 : Nat) (Option.none : Option Jvm.ClassFile.FieldType), Jvm.Cond.code ({ cls := "com/example/link_prestige/linkprestige/CompensatedSum", name := "add", desc := "(D)V" } : Jvm.MethodName) prog_9_method_2_code (7 : Nat) (Option.none : Option Jvm.ClassFile.FieldType), Jvm.Cond.code ({ cls := "com/example/link_prestige/linkprestige/CompensatedSum", name := "value", desc := "()D" } : Jvm.MethodName) prog_9_method_3_code (1 : Nat) (Option.some Jvm.ClassFile.FieldType.double)]
set_option maxRecDepth 65536 in
theorem codes_eq : words1.filter isCode = codes1 := rfl
theorem w_codes : ∀ c ∈ words1.filter isCode, c.before args0 about1 = true := by
  rw [codes_eq]
  intro c hc
  simp only [codes1, List.mem_cons, List.not_mem_nil, or_false] at hc
  rcases hc with rfl | rfl | rfl | rfl | rfl | rfl
  · exact w_c0
  · exact w_c1
  · exact w_c2
  · exact w_c3
  · exact w_c4
  · exact w_c5
set_option maxRecDepth 65536 in
theorem w_t1 : (words1.take 24).all (fun c => isCode c || c.before args0 about1) = true := by decide +kernel
set_option maxRecDepth 65536 in
theorem w_t2 : (words1.drop 24).all (fun c => isCode c || c.before args0 about1) = true := by decide +kernel
theorem w_tables : (allAtoms (Jvm.Cond.code x code maxLocals ret :: tables_1)).before args0 about1 = true := by
  rw [allAtoms_all]
  show words1.all (fun c => c.before args0 about1) = true
  refine all_split ?_ w_codes
  rw [← List.take_append_drop 24 words1, List.all_append, w_t1, w_t2]
  rfl
set_option maxRecDepth 65536 in
theorem w_case : (Jvm.Cond.and given_1 narrow_1).before args0 about1 = true := by decide +kernel
theorem w_applies : (headSpec (Jvm.Cond.code x code maxLocals ret :: tables_1) room_1).applies x e0.platform about1 = true :=
  (Spec.applies_iff w_frames).mpr ⟨w_running, w_runnable, w_alone, w_named, w_hears, w_ripe, w_room, w_tables⟩
theorem atStart : AtStart classFile x code maxLocals ret World_1 tables_1 room_1 Calls_1 rest_1 Pre_1 launch0 p0 e0 about1 theMethod args0 below0 :=
  ⟨lists_1, trivial, launch0.admits_env _ _ _, launch0.least_env, fairChoices_fair.cas, fairChoices_fair.clock, w_frames, w_args, w_heap, w_applies, trivial, trivial, w_case⟩
end start1
theorem witness_1 : WitnessClaimed_1 := ⟨start1.p0, start1.e0, start1.about1, start1.theMethod, start1.args0, start1.below0, start1.atStart⟩
end Jvm.Pilot.@@N@@
