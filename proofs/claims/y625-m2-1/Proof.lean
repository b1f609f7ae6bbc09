import JvmDerived
import JvmDerived.Pilot.@@N@@Statement
import JvmDerived.Pilot.@@N@@Code
set_option linter.unusedVariables false
set_option linter.unusedSimpArgs false
namespace Jvm.Pilot.@@N@@
open Jvm Jvm.ClassFile Sem Op Lib Jvm.Free Jvm.Stand Jvm.LawKit Jvm.RoadKit Bundle Jvm.Pilot.@@N@@.Jvm.D
section OwnGo
/-! a run that comes to its end: what a body's walk owes, of any state on the way -/
def own_Go (tb : Tables) (e : Env) (below : List Frame) (Q : Outcome → State → Prop) (U : State) : Prop := ∃ s₂ o, Steps tb e below U s₂ ∧ s₂.status = .running ∧ Ended s₂ below o ∧ Q o s₂
theorem own_by {tb : Tables} {e : Env} {below : List Frame} {Q : Outcome → State → Prop} {U V : State} (h : ∀ t, Steps tb e below V t → Steps tb e below U t) (k : own_Go tb e below Q V) : own_Go tb e below Q U := by
  obtain ⟨s2, o, h1, h2⟩ := k; exact ⟨s2, o, h _ h1, h2⟩
theorem own_tr {tb : Tables} {e : Env} {below : List Frame} {Q : Outcome → State → Prop} {U V : State} (h : Steps tb e below U V) (k : own_Go tb e below Q V) : own_Go tb e below Q U := own_by (fun _ q => h.trans q) k
theorem own_gen {α : Type} {x y : α} (h : x = y) {tb : Tables} {e : Env} {below : List Frame} {Q : Outcome → State → Prop} (F : α → State) (k : own_Go tb e below Q (F y)) : own_Go tb e below Q (F x) := h ▸ k
def own_ap (f : Option Value → Heap → List Loc → Prop) (v : Option Value) (h : Heap) (L : List Loc) : Prop := f v h L
/-- what a body's contract says of its end -/
def own_Q (s : State) (Qh : Option Value → Heap → List Loc → Prop) (C S : Nat) (o : Outcome) (U' : State) : Prop := ∃ v L, o = .returned v ∧ Qh v U'.heap L ∧ FrameEnd s o U' L C S
variable {p : Program} {l : Launch} {e : Env} {R : Room} {s : State} {m : MethodId} {args : Array Value} {below : List Frame} {meth : Method} {c : Code} {T : State} {locs : List Loc} {cells slots : Nat} {Z : State} {h : Heap} {a : Addr} {pc : Nat} {Ls : Array Slot} {rest : List Value} {Qh : Option Value → Heap → List Loc → Prop} {C S : Nat} {Q : Outcome → State → Prop}
theorem own_leave (X : Stand p l e R s m args below meth c T locs cells slots) (hlk : meth.locks = false) {v : Option Value} (hv : meth.sig.returnType = none → v = none) {f : JFrame}
    (hst : ∀ fs, (∀ (f : JFrame) (acts : List Action), f.method = m → f.locked = none → f.entered = [] → (doReturn e (T.setTop f) acts v).1 = T.setFrames fs) → Steps p.tables e below (T.setTop f) (T.setFrames fs))
    (hq : Qh v T.heap locs) (hC : cells ≤ C) (hS : slots ≤ S) : own_Go p.tables e below (own_Q s Qh C S) (T.setTop f) := by
  obtain ⟨fs, hr, hrun, hended, hW, hsame⟩ := X.leave (v := v) hv hlk
  exact ⟨_, _, hst fs hr, hrun, hended, _, _, rfl, hq, ⟨_, rfl⟩, hW, hsame.mono hC hS⟩
theorem own_retI (X : Stand p l e R s m args below meth c T locs cells slots) (hx : p.tables.exec = Jvm.exec) (hlk : meth.locks = false) (eT : T.heap = h) (hret : meth.sig.returnType = some .int) {z : Int32} (hd : decode c.code pc = .ok (.ireturn, 1))
    (hq : Qh (some (.int z)) h locs) (hC : cells ≤ C) (hS : slots ≤ S) : own_Go p.tables e below (own_Q s Qh C S) (T.setTop (mkF m pc Ls (.int z :: rest))) :=
  own_leave X hlk (v := some (.int z)) (fun q => by rw [hret] at q; cases q) (fun fs hr => retOut X hx hret rfl (Or.inl ⟨rfl, Or.inl rfl, z, rfl⟩) hd hr) (eT ▸ hq) hC hS
theorem own_retN (X : Stand p l e R s m args below meth c T locs cells slots) (hx : p.tables.exec = Jvm.exec) (hlk : meth.locks = false) (eT : T.heap = h) {t : FieldType} (hret : meth.sig.returnType = some t) (ht : t = .boolean ∨ t = .byte ∨ t = .char ∨ t = .short) {z : Int32} (hd : decode c.code pc = .ok (.ireturn, 1))
    (hq : Qh (some (.int (nar t z))) h locs) (hC : cells ≤ C) (hS : slots ≤ S) : own_Go p.tables e below (own_Q s Qh C S) (T.setTop (mkF m pc Ls (.int z :: rest))) :=
  own_leave X hlk (v := some (.int (nar t z))) (fun q => by rw [hret] at q; cases q) (fun fs hr => retN X hx hret ht hd hr) (eT ▸ hq) hC hS
theorem own_retJ (X : Stand p l e R s m args below meth c T locs cells slots) (hx : p.tables.exec = Jvm.exec) (hlk : meth.locks = false) (eT : T.heap = h) (hret : meth.sig.returnType = some .long) {z : Int64} (hd : decode c.code pc = .ok (.lreturn, 1))
    (hq : Qh (some (.long z)) h locs) (hC : cells ≤ C) (hS : slots ≤ S) : own_Go p.tables e below (own_Q s Qh C S) (T.setTop (mkF m pc Ls (.long z :: rest))) :=
  own_leave X hlk (v := some (.long z)) (fun q => by rw [hret] at q; cases q) (fun fs hr => retOut X hx hret rfl (Or.inr (Or.inl ⟨rfl, rfl, z, rfl⟩)) hd hr) (eT ▸ hq) hC hS
theorem own_retA (X : Stand p l e R s m args below meth c T locs cells slots) (hx : p.tables.exec = Jvm.exec) (hlk : meth.locks = false) (eT : T.heap = h) {t : FieldType} (hret : meth.sig.returnType = some t) (ht : t.isReference = true) {w : Value} (hn : narrow t w = w) (hw : w.isRef = true) (hd : decode c.code pc = .ok (.areturn, 1))
    (hq : Qh (some w) h locs) (hC : cells ≤ C) (hS : slots ≤ S) : own_Go p.tables e below (own_Q s Qh C S) (T.setTop (mkF m pc Ls (w :: rest))) :=
  own_leave X hlk (v := some w) (fun q => by rw [hret] at q; cases q) (fun fs hr => retOut X hx hret hn (Or.inr (Or.inr (Or.inr (Or.inr ⟨rfl, ht, hw⟩)))) hd hr) (eT ▸ hq) hC hS
theorem own_retV (X : Stand p l e R s m args below meth c T locs cells slots) (hx : p.tables.exec = Jvm.exec) (hlk : meth.locks = false) (eT : T.heap = h) (hret : meth.sig.returnType = none) (hd : decode c.code pc = .ok (.return_, 1))
    (hq : Qh none h locs) (hC : cells ≤ C) (hS : slots ≤ S) : own_Go p.tables e below (own_Q s Qh C S) (T.setTop (mkF m pc Ls [])) :=
  own_leave X hlk (v := none) (fun _ => rfl) (fun fs hr => X.returnOut hx hret hd hr) (eT ▸ hq) hC hS
/-! an array by its places -/
def own_upd {α : Type} (f : Nat → α) (k : Nat) (v : α) : Nat → α := fun j => if j = k then v else f j
theorem own_upd_eq {α : Type} (f : Nat → α) (k : Nat) (v : α) : own_upd f k v k = v := by simp [own_upd]
theorem own_upd_ne {α : Type} (f : Nat → α) {k j : Nat} (v : α) (q : j ≠ k) : own_upd f k v j = f j := by simp [own_upd, q]
def own_Ar (Z : State) (h : Heap) (a : Addr) (ty : FieldType) (n : Nat) (f : Nat → Value) : Prop := ∃ cl : Cell, Arr Z h a cl ty ∧ cl.slots.size = n ∧ ∀ j, j < n → cl.slots[j]? = some (f j)
/-- ints and what is kept as ints -/
abbrev own_AI (Z : State) (h : Heap) (a : Addr) (ty : FieldType) (n : Nat) (f : Nat → Int32) : Prop := own_Ar Z h a ty n (fun j => .int (f j))
abbrev own_AJ (Z : State) (h : Heap) (a : Addr) (n : Nat) (f : Nat → Int64) : Prop := own_Ar Z h a .long n (fun j => .long (f j))
section
variable {h' : Heap} {b : Addr} {ty : FieldType} {n : Nat} {f : Nat → Value} {v : Value} {sl : Nat} {ws : List Addr}
theorem own_Ar.lt (A : own_Ar Z h a ty n f) : a < h.size := by obtain ⟨cl, q, -⟩ := A; exact q.lt
theorem own_Ar.ext (A : own_Ar Z h a ty n f) (E : Ext h h') : own_Ar Z h' a ty n f := by obtain ⟨cl, q, r⟩ := A; exact ⟨cl, q.ext E, r⟩
theorem own_Ar.other (A : own_Ar Z h a ty n f) (W : Wr h h' b sl v) (q : a ≠ b) : own_Ar Z h' a ty n f := by obtain ⟨cl, r, r'⟩ := A; exact ⟨cl, r.other W q, r'⟩
theorem own_Ar.keep (A : own_Ar Z h a ty n f) (K : Keep h h' ws) (q : a ∉ ws) : own_Ar Z h' a ty n f := by obtain ⟨cl, r, r'⟩ := A; exact ⟨cl, ⟨K.2.1 _ _ r.1 q, r.2⟩, r'⟩
theorem own_Ar.congr (A : own_Ar Z h a ty n f) {g : Nat → Value} (q : ∀ j, j < n → f j = g j) : own_Ar Z h a ty n g := by obtain ⟨cl, r, r1, r2⟩ := A; exact ⟨cl, r, r1, fun j hj => by rw [r2 j hj, q j hj]⟩
theorem own_in {j : Int32} {k n : Nat} (hk : j.toInt = (k : Int)) (hn : k < n) {cl : Cell} (S : cl.slots.size = n) : ¬ (j < 0 ∨ cl.slots.size ≤ j.toNatClampNeg) ∧ j.toNatClampNeg = k := by
  have q : j.toNatClampNeg = k := by simp [Int32.toNatClampNeg, hk]
  refine ⟨fun r => ?_, q⟩
  rcases r with r | r
  · rw [Int32.lt_iff_toInt_lt] at r; simp only [Int32.reduceToInt] at r; omega
  · omega
theorem own_Ar.set (A : own_Ar Z h a ty n f) {k : Nat} (hk : k < n) (W : Wr h h' a k v) : own_Ar Z h' a ty n (own_upd f k v) := by
  obtain ⟨cl, r, r1, r2⟩ := A
  refine ⟨_, r.same W, by rw [sz_set]; exact r1, fun j hj => ?_⟩
  show (cl.slots.setIfInBounds k v)[j]? = _
  by_cases q : j = k
  · subst q; simp [own_upd, r1, hj]
  · rw [Array.getElem?_setIfInBounds_ne (fun y => q y.symm), r2 j hj, own_upd_ne _ _ q]
end
theorem own_bal (X : Stand p l e R s m args below meth c T locs cells slots) (hx : p.tables.exec = Jvm.exec) (hZ : Z.Warmed39 s.vm) (eT : T.heap = h) {n : Nat} {f : Nat → Value} (A : own_Ar Z h a .byte n f) {j : Int32} (k : Nat) (hk : j.toInt = (k : Int)) (hn : k < n) (hd : decode c.code pc = .ok (.baload, 1)) {t : State}
    (kt : Steps p.tables e below (T.setTop (mkF m (pc + 1) Ls (f k :: rest))) t) : Steps p.tables e below (T.setTop (mkF m pc Ls (.int j :: .ref a :: rest))) t := by
  obtain ⟨cl, r, r1, r2⟩ := A
  obtain ⟨q1, q2⟩ := own_in hk hn r1
  exact X.baloadBytes hx (j := j) (v := f k) (by rw [eT]; exact r.1) (State.isArrayOf_alike hZ.alike r.2.1) r.2.2 q1 (by rw [q2]; exact r2 k hn) (g := mkF m pc Ls (.int j :: .ref a :: rest)) rfl rfl hd _ kt
theorem own_ial (X : Stand p l e R s m args below meth c T locs cells slots) (hx : p.tables.exec = Jvm.exec) (hZ : Z.Warmed39 s.vm) (eT : T.heap = h) {n : Nat} {f : Nat → Value} (A : own_Ar Z h a .int n f) {j : Int32} (k : Nat) (hk : j.toInt = (k : Int)) (hn : k < n) (hd : decode c.code pc = .ok (.iaload, 1)) {t : State}
    (kt : Steps p.tables e below (T.setTop (mkF m (pc + 1) Ls (f k :: rest))) t) : Steps p.tables e below (T.setTop (mkF m pc Ls (.int j :: .ref a :: rest))) t := by
  obtain ⟨cl, r, r1, r2⟩ := A
  obtain ⟨q1, q2⟩ := own_in hk hn r1
  exact X.iaload hx (j := j) (v := f k) (by rw [eT]; exact r.1) (State.isArrayOf_alike hZ.alike r.2.1) r.2.2 q1 (by rw [q2]; exact r2 k hn) (g := mkF m pc Ls (.int j :: .ref a :: rest)) rfl rfl hd _ kt
theorem own_lal (X : Stand p l e R s m args below meth c T locs cells slots) (hx : p.tables.exec = Jvm.exec) (hZ : Z.Warmed39 s.vm) (eT : T.heap = h) {n : Nat} {f : Nat → Value} (A : own_Ar Z h a .long n f) {j : Int32} (k : Nat) (hk : j.toInt = (k : Int)) (hn : k < n) (hd : decode c.code pc = .ok (.laload, 1)) {t : State}
    (kt : Steps p.tables e below (T.setTop (mkF m (pc + 1) Ls (f k :: rest))) t) : Steps p.tables e below (T.setTop (mkF m pc Ls (.int j :: .ref a :: rest))) t := by
  obtain ⟨cl, r, r1, r2⟩ := A
  obtain ⟨q1, q2⟩ := own_in hk hn r1
  exact X.laload hx (j := j) (v := f k) (by rw [eT]; exact r.1) (State.isArrayOf_alike hZ.alike r.2.1) r.2.2 q1 (by rw [q2]; exact r2 k hn) (g := mkF m pc Ls (.int j :: .ref a :: rest)) rfl rfl hd _ kt
theorem own_len (X : Stand p l e R s m args below meth c T locs cells slots) (hx : p.tables.exec = Jvm.exec) (hZ : Z.Warmed39 s.vm) (eT : T.heap = h) {ty : FieldType} {n : Nat} {f : Nat → Value} (A : own_Ar Z h a ty n f) (z : Int32) (hz : z = n.toInt32) (hd : decode c.code pc = .ok (.arraylength, 1)) {t : State}
    (kt : Steps p.tables e below (T.setTop (mkF m (pc + 1) Ls (.int z :: rest))) t) : Steps p.tables e below (T.setTop (mkF m pc Ls (.ref a :: rest))) t := by
  obtain ⟨cl, r, r1, r2⟩ := A
  refine X.arraylength hx (by rw [eT]; exact r.1) (State.isArrayOf_alike hZ.alike r.2.1) (g := mkF m pc Ls (.ref a :: rest)) rfl rfl hd _ ?_
  rw [r1, ← hz]; exact kt
theorem own_bas (X : Stand p l e R s m args below meth c T locs cells slots) (hx : p.tables.exec = Jvm.exec) (hZ : Z.Warmed39 s.vm) (eT : T.heap = h) {n : Nat} {f : Nat → Int32} (A : own_AI Z h a .byte n f) {j x : Int32} (k : Nat) (hk : j.toInt = (k : Int)) (hn : k < n) (hd : decode c.code pc = .ok (.bastore, 1))
    (K : ∀ T' h', Stand p l e R s m args below meth c T' (locs ++ [⟨a, k⟩]) cells slots → T'.heap = h' → Wr h h' a k (.int (nar .byte x)) → own_AI Z h' a .byte n (own_upd f k (nar .byte x)) → own_Go p.tables e below Q (T'.setTop (mkF m (pc + 1) Ls rest))) :
    own_Go p.tables e below Q (T.setTop (mkF m pc Ls (.int x :: .int j :: .ref a :: rest))) := by
  obtain ⟨cl, r, r1, r2⟩ := id A
  obtain ⟨q1, q2⟩ := own_in hk hn r1
  obtain ⟨T', h', X', e', W, st⟩ := stB X hx hZ eT r (j := j) (x := x) q1 (g := mkF m pc Ls (.int x :: .int j :: .ref a :: rest)) rfl rfl hd
  rw [q2] at X' W
  exact own_by st (K T' h' X' e' W ((A.set hn W).congr fun i hi => by simp only [own_upd]; split <;> rfl))
theorem own_ias (X : Stand p l e R s m args below meth c T locs cells slots) (hx : p.tables.exec = Jvm.exec) (hZ : Z.Warmed39 s.vm) (eT : T.heap = h) {n : Nat} {f : Nat → Int32} (A : own_AI Z h a .int n f) {j x : Int32} (k : Nat) (hk : j.toInt = (k : Int)) (hn : k < n) (hd : decode c.code pc = .ok (.iastore, 1))
    (K : ∀ T' h', Stand p l e R s m args below meth c T' (locs ++ [⟨a, k⟩]) cells slots → T'.heap = h' → Wr h h' a k (.int x) → own_AI Z h' a .int n (own_upd f k x) → own_Go p.tables e below Q (T'.setTop (mkF m (pc + 1) Ls rest))) :
    own_Go p.tables e below Q (T.setTop (mkF m pc Ls (.int x :: .int j :: .ref a :: rest))) := by
  obtain ⟨cl, r, r1, r2⟩ := id A
  obtain ⟨q1, q2⟩ := own_in hk hn r1
  obtain ⟨T', h', X', e', W, st⟩ := stI X hx hZ eT r (j := j) (x := x) q1 (g := mkF m pc Ls (.int x :: .int j :: .ref a :: rest)) rfl rfl hd
  rw [q2] at X' W
  exact own_by st (K T' h' X' e' W ((A.set hn W).congr fun i hi => by simp only [own_upd]; split <;> rfl))
theorem own_las (X : Stand p l e R s m args below meth c T locs cells slots) (hx : p.tables.exec = Jvm.exec) (hZ : Z.Warmed39 s.vm) (eT : T.heap = h) {n : Nat} {f : Nat → Int64} (A : own_AJ Z h a n f) {j : Int32} {x : Int64} (k : Nat) (hk : j.toInt = (k : Int)) (hn : k < n) (hd : decode c.code pc = .ok (.lastore, 1))
    (K : ∀ T' h', Stand p l e R s m args below meth c T' (locs ++ [⟨a, k⟩]) cells slots → T'.heap = h' → Wr h h' a k (.long x) → own_AJ Z h' a n (own_upd f k x) → own_Go p.tables e below Q (T'.setTop (mkF m (pc + 1) Ls rest))) :
    own_Go p.tables e below Q (T.setTop (mkF m pc Ls (.long x :: .int j :: .ref a :: rest))) := by
  obtain ⟨cl, r, r1, r2⟩ := id A
  obtain ⟨q1, q2⟩ := own_in hk hn r1
  obtain ⟨T', h', X', e', W, st⟩ := stJ X hx hZ eT r (j := j) (x := x) q1 (g := mkF m pc Ls (.long x :: .int j :: .ref a :: rest)) rfl rfl hd
  rw [q2] at X' W
  exact own_by st (K T' h' X' e' W ((A.set hn W).congr fun i hi => by simp only [own_upd]; split <;> rfl))
theorem own_newP (X : Stand p l e R s m args below meth c T locs cells slots) (hx : p.tables.exec = Jvm.exec) (hZ : Z.Warmed39 s.vm) {a0 : Array Value} {aty : ArrayType} (w : (Cond.arrayClass (newarray.typeOf aty)).before a0 Z = true) (eT : T.heap = h) {n : Int32} (k : Nat) (hk : n.toInt = (k : Int)) (cap : Nat) (hcap : k ≤ cap) (hb : cap * 8 ≤ 536870912) (hc : cells + 1 ≤ R.cells) (hl : slots + cap ≤ R.slots)
    (hd : decode c.code pc = .ok (.newarray aty, 2))
    (K : ∀ T' h', Stand p l e R s m args below meth c T' locs (cells + 1) (slots + cap) → T'.heap = h' → Ext h h' → own_Ar Z h' h.size (newarray.typeOf aty) k (fun _ => defaultValue (newarray.typeOf aty)) → own_Go p.tables e below Q (T'.setTop (mkF m (pc + 2) Ls (.ref h.size :: rest)))) :
    own_Go p.tables e below Q (T.setTop (mkF m pc Ls (.int n :: rest))) := by
  have q : n.toNatClampNeg = k := by simp [Int32.toNatClampNeg, hk]
  have q0 : ¬ n < 0 := by rw [Int32.lt_iff_toInt_lt]; simp only [Int32.reduceToInt]; omega
  obtain ⟨T', h', kk, X', e', E, A, st⟩ := newP X hx hZ w eT (n := n) (g := mkF m pc Ls (.int n :: rest)) rfl hd rfl q0 (cap := cap) (by rw [q]; exact hcap) hb hc hl
  refine own_by st (K T' h' X' e' E ⟨_, A, by rw [sz_new, q], fun j hj => ?_⟩)
  simp [newA, q, hj]
theorem own_newPE (X : Stand p l e R s m args below meth c T locs cells slots) (hx : p.tables.exec = Jvm.exec) (hZ : Z.Warmed39 s.vm) {a0 : Array Value} {aty : ArrayType} (w : (Cond.arrayClass (newarray.typeOf aty)).before a0 Z = true) (eT : T.heap = h) {n : Int32} (k : Nat) (hk : n.toInt = (k : Int)) (cap : Nat) (hcap : k ≤ cap) (hb : cap * 8 ≤ 536870912) (hc : cells + 1 ≤ R.cells) (hl : slots + cap ≤ R.slots)
    (hd : decode c.code pc = .ok (.newarray aty, 2)) {ad : String} (had : "[" ++ (newarray.typeOf aty).toString = ad)
    (K : ∀ T' h', Stand p l e R s m args below meth c T' locs (cells + 1) (slots + cap) → T'.heap = h' → Ext h h' → own_Ar Z h' h.size (newarray.typeOf aty) k (fun _ => defaultValue (newarray.typeOf aty)) → Exa Z h' h.size ad → own_Go p.tables e below Q (T'.setTop (mkF m (pc + 2) Ls (.ref h.size :: rest)))) :
    own_Go p.tables e below Q (T.setTop (mkF m pc Ls (.int n :: rest))) := by
  have q : n.toNatClampNeg = k := by simp [Int32.toNatClampNeg, hk]
  have q0 : ¬ n < 0 := by rw [Int32.lt_iff_toInt_lt]; simp only [Int32.reduceToInt]; omega
  obtain ⟨T', h', kk, X', e', E, A, EX, st⟩ := newPE X hx hZ w eT (n := n) (g := mkF m pc Ls (.int n :: rest)) rfl hd rfl q0 (cap := cap) (by rw [q]; exact hcap) hb hc hl had
  refine own_by st (K T' h' X' e' E ⟨_, A, by rw [sz_new, q], fun j hj => ?_⟩ EX)
  simp [newA, q, hj]
section
variable {a0 : Array Value} {own : String} {index : Nat} {y : MethodName} {bytes : ByteArray} {maxL : Nat} {ret : Option FieldType} {rm : Room} {as' : Array Value} {Qc : Option Value → Heap → List Loc → Prop} {argsL : List Value} {St : List Value}
/-! calls by contract, with what comes behind -/
theorem own_callS (X : Stand p l e R s m args below meth c T locs cells slots) (hx : p.tables.exec = Jvm.exec) (hZ : Z.Warmed39 s.vm) (hown : s.vm.findClass own = some m.cls)
    (w1 : (Cond.methodLink own index y).before a0 Z = true) (w2 : (Cond.static y).before a0 Z = true) (w3 : (Cond.initialized y.cls).before a0 Z = true) (w4 : (Cond.code y bytes maxL ret).before a0 Z = true) (hy : y.cls ≠ "java/lang/invoke/MethodHandle" ∧ y.cls ≠ "java/lang/invoke/VarHandle")
    (hM : MetFree l y (head1 [Cond.code y bytes maxL ret] rm) (fun a U => a = as' ∧ Z.Warmed39 U.vm ∧ U.heap = h) (fun _ _ _ _ _ => True) (fun _ U o U' => ∃ v L, o = .returned v ∧ Qc v U'.heap L ∧ FrameEnd U o U' L rm.cells rm.slots))
    (eT : T.heap = h) (hsize : Ls.size = c.maxLocals) (argsL rest : List Value) (hst : St = argsL.reverse ++ rest) (hlen : ∀ sig, parseMethodDescriptor y.desc = some sig → argsL.length = sig.parameters.length) (ha : argsL.toArray = as') (W : Nat) (hW : 2 * 0 + (rest.map fun v => v.category).sum ≤ W)
    (hf : rm.frames + 1 ≤ R.frames) (hl : W + (maxL + 11) + rm.locals ≤ R.locals) (hc : cells + rm.cells ≤ R.cells) (hs : slots + rm.slots ≤ R.slots) (hd : decode c.code pc = .ok (.invokestatic index, 3))
    (K : ∀ T' Lc v, Stand p l e R s m args below meth c T' (locs ++ Lc) (cells + rm.cells) (slots + rm.slots) → Qc v T'.heap Lc → own_Go p.tables e below Q (T'.setTop (mkF m (pc + 3) Ls (v.toList ++ rest)))) :
    own_Go p.tables e below Q (T.setTop (mkF m pc Ls St)) := by
  obtain ⟨v, _, ⟨T1, L1, k1, n1⟩, -, X1, ⟨Lc, hQ, l1, y1, z1⟩, st1⟩ := Jvm.LawKit.callS X hx (y := y) hown (mvT hZ w1) (mvT hZ w2) (mvT hZ w3) (mvT hZ w4) hy (backOf (W := W) hM hZ w4 w3 hf hl) (g := mkF m pc Ls St) rfl hsize (argsL := argsL) (rest := rest) hlen hst hW hd (fun _ _ => ⟨ha, eT, hc, hs⟩)
  dsimp only [Pt.U, Pt.locs, Pt.cells, Pt.slots] at X1 l1 y1 z1 st1 hQ
  subst l1 y1 z1
  exact own_by st1 (K T1 Lc v X1 hQ)
theorem own_callI (X : Stand p l e R s m args below meth c T locs cells slots) (hx : p.tables.exec = Jvm.exec) (hZ : Z.Warmed39 s.vm) (hown : s.vm.findClass own = some m.cls) (hy1 : y.name = "<init>")
    (w1 : (Cond.methodLink own index y).before a0 Z = true) (w2 : (Cond.instanceMethod y).before a0 Z = true) (w3 : (Cond.initialized y.cls).before a0 Z = true) (w4 : (Cond.code y bytes maxL none).before a0 Z = true) (hy : y.cls ≠ "java/lang/invoke/MethodHandle" ∧ y.cls ≠ "java/lang/invoke/VarHandle")
    (hM : MetFree l y (head1 [Cond.code y bytes maxL none] rm) (fun a U => a = as' ∧ Z.Warmed39 U.vm ∧ U.heap = h) (fun _ _ _ _ _ => True) (fun _ U o U' => ∃ v L, o = .returned v ∧ Qc v U'.heap L ∧ FrameEnd U o U' L rm.cells rm.slots))
    (eT : T.heap = h) (hsize : Ls.size = c.maxLocals) (b : Addr) (argsL rest : List Value) (hst : St = argsL.reverse ++ .ref b :: rest) (hlen : ∀ sig, parseMethodDescriptor y.desc = some sig → argsL.length = sig.parameters.length) (ha : (Value.ref b :: argsL).toArray = as') (W : Nat) (hW : 2 * 0 + (rest.map fun v => v.category).sum ≤ W)
    (hf : rm.frames + 1 ≤ R.frames) (hl : W + (maxL + 11) + rm.locals ≤ R.locals) (hc : cells + rm.cells ≤ R.cells) (hs : slots + rm.slots ≤ R.slots) (hd : decode c.code pc = .ok (.invokespecial index, 3))
    (K : ∀ T' Lc v, Stand p l e R s m args below meth c T' (locs ++ Lc) (cells + rm.cells) (slots + rm.slots) → Qc v T'.heap Lc → own_Go p.tables e below Q (T'.setTop (mkF m (pc + 3) Ls (v.toList ++ rest)))) :
    own_Go p.tables e below Q (T.setTop (mkF m pc Ls St)) := by
  obtain ⟨v, _, ⟨T1, L1, k1, n1⟩, -, X1, ⟨Lc, hQ, l1, y1, z1⟩, st1⟩ := X.specialBack hx (y := y) hy1 hown (mvT hZ w1) (mvT hZ w2) (mvT hZ w4) hy (backOf (W := W) hM hZ w4 w3 hf hl) (g := mkF m pc Ls St) rfl hsize (Steps.refl _) (a := b) (argsL := argsL) (rest := rest) hlen hst hW hd (fun _ _ => ⟨ha, eT, hc, hs⟩)
  dsimp only [Pt.U, Pt.locs, Pt.cells, Pt.slots] at X1 l1 y1 z1 st1 hQ
  subst l1 y1 z1
  exact own_tr st1 (K T1 Lc v X1 hQ)
theorem own_callV {C : String} {z : MethodName} (X : Stand p l e R s m args below meth c T locs cells slots) (hx : p.tables.exec = Jvm.exec) (hZ : Z.Warmed39 s.vm) (hown : s.vm.findClass own = some m.cls)
    (w1 : (Cond.methodLink own index y).before a0 Z = true) (w2 : (Cond.declares y).before a0 Z = true) (hnf : NotFace s y) (w5 : (Cond.selects C y z).before a0 Z = true) (w6 : (Cond.instanceMethod z).before a0 Z = true) (w3 : (Cond.initialized z.cls).before a0 Z = true) (w4 : (Cond.code z bytes maxL ret).before a0 Z = true) (hy : y.cls ≠ "java/lang/invoke/MethodHandle" ∧ y.cls ≠ "java/lang/invoke/VarHandle")
    (hM : MetFree l z (head1 [Cond.code z bytes maxL ret] rm) (fun a U => a = as' ∧ Z.Warmed39 U.vm ∧ U.heap = h) (fun _ _ _ _ _ => True) (fun _ U o U' => ∃ v L, o = .returned v ∧ Qc v U'.heap L ∧ FrameEnd U o U' L rm.cells rm.slots))
    (eT : T.heap = h) (b : Addr) (E : Exa Z h b C) (hsize : Ls.size = c.maxLocals) (argsL rest : List Value) (hst : St = argsL.reverse ++ .ref b :: rest) (hlen : ∀ sig, parseMethodDescriptor y.desc = some sig → argsL.length = sig.parameters.length) (ha : (Value.ref b :: argsL).toArray = as') (W : Nat) (hW : 2 * 0 + (rest.map fun v => v.category).sum ≤ W)
    (hf : rm.frames + 1 ≤ R.frames) (hl : W + (maxL + 11) + rm.locals ≤ R.locals) (hc : cells + rm.cells ≤ R.cells) (hs : slots + rm.slots ≤ R.slots) (hd : decode c.code pc = .ok (.invokevirtual index, 3))
    (K : ∀ T' Lc v, Stand p l e R s m args below meth c T' (locs ++ Lc) (cells + rm.cells) (slots + rm.slots) → Qc v T'.heap Lc → own_Go p.tables e below Q (T'.setTop (mkF m (pc + 3) Ls (v.toList ++ rest)))) :
    own_Go p.tables e below Q (T.setTop (mkF m pc Ls St)) := by
  obtain ⟨cq, kq, qa, qb, qc⟩ := isOf hZ eT E
  obtain ⟨v, _, ⟨T1, L1, k1, n1⟩, -, X1, ⟨Lc, hQ, l1, y1, z1⟩, st1⟩ := X.virtualBack hx (y := y) (z := z) hown (mvT hZ w1) (mvT hZ w2) hnf (mvT hZ w5) (mvT hZ w6) hy (backOf (W := W) hM hZ w4 w3 hf hl) qa qc (g := mkF m pc Ls St) rfl hsize (Steps.refl _) (argsL := argsL) (rest := rest) hlen hst hW hd (fun _ _ => ⟨ha, eT, hc, hs⟩)
  dsimp only [Pt.U, Pt.locs, Pt.cells, Pt.slots] at X1 l1 y1 z1 st1 hQ
  subst l1 y1 z1
  exact own_tr st1 (K T1 Lc v X1 hQ)
theorem own_selp {s : State} {aa : Array Value} {y y' : MethodName} (hc : y.cls = y'.cls) (w1 : (Cond.selects y'.cls y' y').before aa s = true) (hpriv : s.PrivateAt y) (hinst : (Cond.instanceMethod y).before aa s = true) (hy : y.cls ≠ "java/lang/invoke/MethodHandle" ∧ y.cls ≠ "java/lang/invoke/VarHandle") : (Cond.selects y.cls y y).before aa s = true := by
  obtain ⟨c2, r2, m2, q0, -, q3, -, kP, hkP, hkPi⟩ := Cond.selects_spec w1
  have h1 : s.vm.findClass y'.cls = some m2.cls := findClass_of_methodNamed q3
  exact selects_self_of_private (by rw [hc]; exact h1) hkP hkPi hpriv hinst hy
theorem own_callP {y' : MethodName} (X : Stand p l e R s m args below meth c T locs cells slots) (hx : p.tables.exec = Jvm.exec) (hZ : Z.Warmed39 s.vm) (hown : s.vm.findClass own = some m.cls)
    (w1 : (Cond.methodLink own index y).before a0 Z = true) (w2 : (Cond.instanceMethod y).before a0 Z = true) (w5 : (Cond.privateMethod y).before a0 Z = true) (hcc : y.cls = y'.cls) (w6 : (Cond.selects y'.cls y' y').before a0 Z = true) (w3 : (Cond.initialized y.cls).before a0 Z = true) (w4 : (Cond.code y bytes maxL ret).before a0 Z = true) (hy : y.cls ≠ "java/lang/invoke/MethodHandle" ∧ y.cls ≠ "java/lang/invoke/VarHandle")
    (hM : MetFree l y (head1 [Cond.code y bytes maxL ret] rm) (fun a U => a = as' ∧ Z.Warmed39 U.vm ∧ U.heap = h) (fun _ _ _ _ _ => True) (fun _ U o U' => ∃ v L, o = .returned v ∧ Qc v U'.heap L ∧ FrameEnd U o U' L rm.cells rm.slots))
    (eT : T.heap = h) (b : Addr) {C : String} (E : Exa Z h b C) (hsize : Ls.size = c.maxLocals) (argsL rest : List Value) (hst : St = argsL.reverse ++ .ref b :: rest) (hlen : ∀ sig, parseMethodDescriptor y.desc = some sig → argsL.length = sig.parameters.length) (ha : (Value.ref b :: argsL).toArray = as') (W : Nat) (hW : 2 * 0 + (rest.map fun v => v.category).sum ≤ W)
    (hf : rm.frames + 1 ≤ R.frames) (hl : W + (maxL + 11) + rm.locals ≤ R.locals) (hc : cells + rm.cells ≤ R.cells) (hs : slots + rm.slots ≤ R.slots) (hd : decode c.code pc = .ok (.invokevirtual index, 3))
    (K : ∀ T' Lc v, Stand p l e R s m args below meth c T' (locs ++ Lc) (cells + rm.cells) (slots + rm.slots) → Qc v T'.heap Lc → own_Go p.tables e below Q (T'.setTop (mkF m (pc + 3) Ls (v.toList ++ rest)))) :
    own_Go p.tables e below Q (T.setTop (mkF m pc Ls St)) := by
  obtain ⟨cq, q1, q2⟩ := E.cell
  have hpr := Cond.privateMethod_at (mvP hZ w5 (args := #[]))
  obtain ⟨v, _, ⟨T1, L1, k1, n1⟩, -, X1, ⟨Lc, hQ, l1, y1, z1⟩, st1⟩ := X.privateBack hx (y := y) hown (mvT hZ w1) (mvT hZ w2) (own_selp hcc (mvT hZ w6) hpr (mvT hZ w2) hy) hpr (mvT hZ w4) hy (backOf (W := W) hM hZ w4 w3 hf hl) (g := mkF m pc Ls St) rfl hsize (Steps.refl _) (a := b) (by rw [eT]; exact q1) q2 (argsL := argsL) (rest := rest) hlen hst hW hd (fun _ _ => ⟨ha, eT, hc, hs⟩)
  dsimp only [Pt.U, Pt.locs, Pt.cells, Pt.slots] at X1 l1 y1 z1 st1 hQ
  subst l1 y1 z1
  exact own_tr st1 (K T1 Lc v X1 hQ)
end
theorem own_size_wr {h h' : Heap} {b : Addr} {sl : Nat} {v : Value} {n0 : Nat} (W : Wr h h' b sl v) (q : n0 ≤ h.size) : n0 ≤ h'.size := by rw [W.size]; exact q
end OwnGo
theorem own_pd0 : parseMethodDescriptor "(III)Z" = some ⟨[.int, .int, .int], some .boolean⟩ := by decide +kernel
theorem own_pd1 : parseMethodDescriptor "(I)Lcom/example/time_for_trials/timefortrials/cli/Usage$Occurs;" = some ⟨[.int], some (.object "com/example/time_for_trials/timefortrials/cli/Usage$Occurs")⟩ := by decide +kernel
theorem own_pd2 : parseMethodDescriptor "([C)V" = some ⟨[(.array .char)], none⟩ := by decide +kernel
theorem own_pd3 : parseMethodDescriptor "([CIILjava/lang/Void;)V" = some ⟨[(.array .char), .int, .int, (.object "java/lang/Void")], none⟩ := by decide +kernel
theorem own_pd4 : parseMethodDescriptor "()V" = some ⟨[], none⟩ := by decide +kernel
theorem own_pd5 : parseMethodDescriptor "(C)Ljava/lang/String;" = some ⟨[.char], some (.object "java/lang/String")⟩ := by decide +kernel
theorem own_pd6 : parseMethodDescriptor "(C)Z" = some ⟨[.char], some .boolean⟩ := by decide +kernel
theorem own_pd7 : parseMethodDescriptor "(C)[B" = some ⟨[.char], some (.array .byte)⟩ := by decide +kernel
theorem own_pd8 : parseMethodDescriptor "([BB)V" = some ⟨[(.array .byte), .byte], none⟩ := by decide +kernel
theorem own_pd9 : parseMethodDescriptor "(Ljava/lang/String;Ljava/lang/String;Lcom/example/time_for_trials/timefortrials/cli/Usage$Occurs;Ljava/lang/String;)V" = some ⟨[(.object "java/lang/String"), (.object "java/lang/String"), (.object "com/example/time_for_trials/timefortrials/cli/Usage$Occurs"), (.object "java/lang/String")], none⟩ := by decide +kernel
theorem own_pd10 : parseMethodDescriptor "()Z" = some ⟨[], some .boolean⟩ := by decide +kernel
theorem own_pd11 : parseMethodDescriptor "(Ljava/lang/String;Ljava/lang/String;)Lcom/example/time_for_trials/timefortrials/cli/Usage$Option;" = some ⟨[(.object "java/lang/String"), (.object "java/lang/String")], some (.object "com/example/time_for_trials/timefortrials/cli/Usage$Option")⟩ := by decide +kernel
theorem own_pd12 : parseMethodDescriptor "([CII)[B" = some ⟨[(.array .char), .int, .int], some (.array .byte)⟩ := by decide +kernel
theorem own_pd13 : parseMethodDescriptor "([CI[BII)I" = some ⟨[(.array .char), .int, (.array .byte), .int, .int], some .int⟩ := by decide +kernel
theorem own_pd14 : parseMethodDescriptor "([BI)B" = some ⟨[(.array .byte), .int], some .byte⟩ := by decide +kernel
section OwnWide
/-! char arrays; bodies that may load String constants: the end is ReturnedEndW, the Stand lies over the start with the tables at hand -/
variable {p : Program} {l : Launch} {e : Env} {R : Room} {s : State} {m : MethodId} {args : Array Value} {below : List Frame} {meth : Method} {c : Code} {T : State} {locs : List Loc} {cells slots : Nat} {Z : State} {h : Heap} {a : Addr} {pc : Nat} {Ls : Array Slot} {rest : List Value} {t : State} {Q : Outcome → State → Prop} {C S : Nat} {Qh : Option Value → Heap → List Loc → Prop} {vm0 : Vm} {k0 : Nat} {a0 : Array Value}
theorem own_cal (X : Stand p l e R s m args below meth c T locs cells slots) (hx : p.tables.exec = Jvm.exec) (hZ : Z.Warmed39 s.vm) (eT : T.heap = h) {n : Nat} {f : Nat → Value} (A : own_Ar Z h a .char n f) {j : Int32} (k : Nat) (hk : j.toInt = (k : Int)) (hn : k < n) (hd : decode c.code pc = .ok (.caload, 1))
    (kt : Steps p.tables e below (T.setTop (mkF m (pc + 1) Ls (f k :: rest))) t) : Steps p.tables e below (T.setTop (mkF m pc Ls (.int j :: .ref a :: rest))) t := by
  obtain ⟨cl, r, r1, r2⟩ := A
  obtain ⟨q1, q2⟩ := own_in hk hn r1
  exact X.caload hx (j := j) (v := f k) (by rw [eT]; exact r.1) (State.isArrayOf_alike hZ.alike r.2.1) r.2.2 q1 (by rw [q2]; exact r2 k hn) (g := mkF m pc Ls (.int j :: .ref a :: rest)) rfl rfl hd _ kt
theorem own_cas (X : Stand p l e R s m args below meth c T locs cells slots) (hx : p.tables.exec = Jvm.exec) (hZ : Z.Warmed39 s.vm) (eT : T.heap = h) {n : Nat} {f : Nat → Int32} (A : own_AI Z h a .char n f) {j x : Int32} (k : Nat) (hk : j.toInt = (k : Int)) (hn : k < n) (hd : decode c.code pc = .ok (.castore, 1))
    (K : ∀ T' h', Stand p l e R s m args below meth c T' (locs ++ [⟨a, k⟩]) cells slots → T'.heap = h' → Wr h h' a k (.int (nar .char x)) → own_AI Z h' a .char n (own_upd f k (nar .char x)) → own_Go p.tables e below Q (T'.setTop (mkF m (pc + 1) Ls rest))) :
    own_Go p.tables e below Q (T.setTop (mkF m pc Ls (.int x :: .int j :: .ref a :: rest))) := by
  obtain ⟨cl, r, r1, r2⟩ := id A
  obtain ⟨q1, q2⟩ := own_in hk hn r1
  obtain ⟨T', h', X', e', W, st⟩ := stC X hx hZ eT r (j := j) (x := x) q1 (g := mkF m pc Ls (.int x :: .int j :: .ref a :: rest)) rfl rfl hd
  rw [q2] at X' W
  exact own_by st (K T' h' X' e' W ((A.set hn W).congr fun i hi => by simp only [own_upd]; split <;> rfl))
theorem own_Ar.nostat {ty : FieldType} {n : Nat} {f : Nat → Value} (A : own_Ar Z h a ty n f) : ∀ cell : Cell, h[a]? = some cell → cell.vm.isStatics = false := by obtain ⟨cl, r, -⟩ := A; exact r.nostat
theorem own_sta_keep {h' : Heap} {ws : List Addr} {K n d : String} {w : Value} (F : Sta Z h K n d w) (Kp : Keep h h' ws) (hn : ∀ x ∈ ws, ∀ cell : Cell, h[x]? = some cell → cell.vm.isStatics = false) : Sta Z h' K n d w := by
  obtain ⟨cf, i, k, f, st, cell, h1, h2, h3, h4, h5, h6, r⟩ := F
  exact ⟨cf, i, k, f, st, cell, h1, h2, h3, h4, Kp.2.1 _ _ h5 (fun hm => by rw [hn st hm cell h5] at h6; cases h6), h6, r⟩
def own_QW (s : State) (Qh : Option Value → Heap → List Loc → Prop) (C S : Nat) (o : Outcome) (U' : State) : Prop := ∃ v L, o = .returned v ∧ Qh v U'.heap L ∧ ReturnedEndW s o U' L C S
theorem own_leaveW (X : Stand p l e R (s.setVm vm0) m args below meth c T locs cells slots) (hlk : meth.locks = false) (hS : s.Since vm0 k0) (hk : k0 ≤ T.heap.size) {v : Option Value} (hv : meth.sig.returnType = none → v = none) {f : JFrame}
    (hst : ∀ fs, (∀ (f : JFrame) (acts : List Action), f.method = m → f.locked = none → f.entered = [] → (doReturn e (T.setTop f) acts v).1 = T.setFrames fs) → Steps p.tables e below (T.setTop f) (T.setFrames fs))
    (hq : Qh v T.heap locs) (hC : cells ≤ C) (hS' : slots ≤ S) : own_Go p.tables e below (own_QW s Qh C S) (T.setTop f) := by
  obtain ⟨fs, hr, hrun, hended, q1, q2, q3, q4⟩ := X.leaveW hS hk (v := v) hv hlk
  exact ⟨_, _, hst fs hr, hrun, hended, _, _, rfl, hq, q1, q2, q3, q4.mono hC hS'⟩
theorem own_retWN (X : Stand p l e R (s.setVm vm0) m args below meth c T locs cells slots) (hx : p.tables.exec = Jvm.exec) (hlk : meth.locks = false) (eT : T.heap = h) {t : FieldType} (hret : meth.sig.returnType = some t) (hS : s.Since vm0 k0) (hk : k0 ≤ h.size) (ht : t = .boolean ∨ t = .byte ∨ t = .char ∨ t = .short) {z : Int32} (hd : decode c.code pc = .ok (.ireturn, 1))
    (hq : Qh (some (.int (nar t z))) h locs) (hC : cells ≤ C) (hS' : slots ≤ S) : own_Go p.tables e below (own_QW s Qh C S) (T.setTop (mkF m pc Ls (.int z :: rest))) :=
  own_leaveW X hlk hS (eT ▸ hk) (v := some (.int (nar t z))) (fun q => by rw [hret] at q; cases q) (fun fs hr => retN X hx hret ht hd hr) (eT ▸ hq) hC hS'
theorem own_retWI (X : Stand p l e R (s.setVm vm0) m args below meth c T locs cells slots) (hx : p.tables.exec = Jvm.exec) (hlk : meth.locks = false) (eT : T.heap = h) (hret : meth.sig.returnType = some .int) (hS : s.Since vm0 k0) (hk : k0 ≤ h.size) {z : Int32} (hd : decode c.code pc = .ok (.ireturn, 1))
    (hq : Qh (some (.int z)) h locs) (hC : cells ≤ C) (hS' : slots ≤ S) : own_Go p.tables e below (own_QW s Qh C S) (T.setTop (mkF m pc Ls (.int z :: rest))) :=
  own_leaveW X hlk hS (eT ▸ hk) (v := some (.int z)) (fun q => by rw [hret] at q; cases q) (fun fs hr => retOut X hx hret rfl (Or.inl ⟨rfl, Or.inl rfl, z, rfl⟩) hd hr) (eT ▸ hq) hC hS'
theorem own_retWV (X : Stand p l e R (s.setVm vm0) m args below meth c T locs cells slots) (hx : p.tables.exec = Jvm.exec) (hlk : meth.locks = false) (eT : T.heap = h) (hret : meth.sig.returnType = none) (hS : s.Since vm0 k0) (hk : k0 ≤ h.size) (hd : decode c.code pc = .ok (.return_, 1))
    (hq : Qh none h locs) (hC : cells ≤ C) (hS' : slots ≤ S) : own_Go p.tables e below (own_QW s Qh C S) (T.setTop (mkF m pc Ls [])) :=
  own_leaveW X hlk hS (eT ▸ hk) (v := none) (fun _ => rfl) (fun fs hr => X.returnOut hx hret hd hr) (eT ▸ hq) hC hS'
/-- ldc of a String constant: which object, is not told -/
theorem own_ldcS {own text : String} {index : Nat} (X : Stand p l e R (s.setVm vm0) m args below meth c T locs cells slots) (hx : p.tables.exec = Jvm.exec) (hZ : Z.Warmed39 (s.setVm vm0).vm) (hown : (s.setVm vm0).vm.findClass own = some m.cls) (w : (Cond.stringLink own index text).before a0 Z = true) (wS : ∀ a ∈ Bundle.stringAtoms, a.before a0 Z = true)
    (eT : T.heap = h) (hS : s.Since vm0 k0) (hk : k0 ≤ h.size) (hd : decode c.code pc = .ok (.ldc index, 2)) (n : Nat) (hn : 4 * text.toList.length ≤ n) (hbig : n ≤ 536870912) (hc : cells + 2 ≤ R.cells) (hl : slots + (n + 4) ≤ R.slots)
    (K : ∀ a T' h' k1, Stand p l e R (s.setVm T'.vm) m args below meth c T' locs (cells + 2) (slots + (n + 4)) → T'.heap = h' → Ext h h' → s.Since T'.vm k1 → k1 ≤ h'.size → Z.Warmed39 (s.setVm T'.vm).vm → (s.setVm T'.vm).vm.findClass own = some m.cls → own_Go p.tables e below Q (T'.setTop (mkF m (pc + 2) Ls (.ref a :: rest)))) :
    own_Go p.tables e below Q (T.setTop (mkF m pc Ls rest)) := by
  obtain ⟨a, T', h', k1, X', e', E, hS', hk', hZ', hown', st⟩ := ldcS X hx hZ hown w wS eT hS hk (g := mkF m pc Ls rest) rfl hd hn hbig hc hl
  exact own_by st (K a T' h' k1 X' e' E hS' hk' hZ' hown')
/-- ldc of "" (or another constant), nothing interned since Z: what it holds, and what the table books -/
theorem own_ldcV {own text : String} {index : Nat} (X : Stand p l e R (s.setVm vm0) m args below meth c T locs cells slots) (hx : p.tables.exec = Jvm.exec) (hZ : Z.Warmed39 (s.setVm vm0).vm) (hown : (s.setVm vm0).vm.findClass own = some m.cls) (w : (Cond.stringLink own index text).before a0 Z = true) (wS : ∀ a ∈ Bundle.stringAtoms, a.before a0 Z = true)
    (eT : T.heap = h) (hS : s.Since vm0 k0) (hk : k0 ≤ h.size) (N : Fr s.heap.size locs) (hkeep : ∀ (b : Addr) (cl : Cell), Z.heap[b]? = some cl → s.heap[b]? = some cl) (I : vm0.interned = Z.vm.interned) (hh : Jvm.Lit.constHeld Z own index) (hcw : Jvm.Lit.compactW.before a0 Z = true)
    (vs : List Value) (z : Int32) (ht : (∀ c ∈ text.toList, c.toNat < 256) ∧ text.toList.map (fun c => Value.int (Jvm.Lit.byteI c.toNat.toUInt16)) = vs) (hz : ¬ z < 0) (hl : z.toNatClampNeg = vs.length)
    (hd : decode c.code pc = .ok (.ldc index, 2)) (n : Nat) (hn : 4 * text.toList.length ≤ n) (hbig : n ≤ 536870912) (hc : cells + 2 ≤ R.cells) (hl' : slots + (n + 4) ≤ R.slots)
    (K : ∀ a T' h' k1 b, Stand p l e R (s.setVm T'.vm) m args below meth c T' locs (cells + 2) (slots + (n + 4)) → T'.heap = h' → Ext h h' → s.Since T'.vm k1 → k1 ≤ h'.size → Z.Warmed39 (s.setVm T'.vm).vm → (s.setVm T'.vm).vm.findClass own = some m.cls →
      Fld Z h' a "java/lang/String" "coder" "B" (.int 0) → Fld Z h' a "java/lang/String" "value" "[B" (.ref b) → Lit (s.setVm T'.vm) own index a → own_Go p.tables e below Q (T'.setTop (mkF m (pc + 2) Ls (.ref a :: rest)))) :
    own_Go p.tables e below Q (T.setTop (mkF m pc Ls rest)) := by
  obtain ⟨a, T', h', k1, b, k, X', e', E, hS', hk', hZ', hown', -, F1, F2, -, -, -, -, Li, st⟩ := ldcSVL X hx hZ hown w wS eT hS hk N hkeep (Ts := []) ⟨#[], by simpa using I, fun q hq => by simp at hq⟩ (by simp) hh hcw ht hz hl (g := mkF m pc Ls rest) rfl hd hn hbig hc hl'
  exact own_by st (K a T' h' k1 b X' e' E hS' hk' hZ' hown' F1 F2 Li)
/-- a call of <init> whose law may intern -/
theorem own_callIW {own : String} {index : Nat} {y : MethodName} {bytes : ByteArray} {maxL : Nat} {rm : Room} {as' : Array Value} {Qc : Option Value → Heap → List Loc → Prop} {St : List Value} (X : Stand p l e R (s.setVm vm0) m args below meth c T locs cells slots) (hx : p.tables.exec = Jvm.exec) (hZ : Z.Warmed39 (s.setVm vm0).vm) (hown : (s.setVm vm0).vm.findClass own = some m.cls) (hy1 : y.name = "<init>")
    (w1 : (Cond.methodLink own index y).before a0 Z = true) (w2 : (Cond.instanceMethod y).before a0 Z = true) (w3 : (Cond.initialized y.cls).before a0 Z = true) (w4 : (Cond.code y bytes maxL none).before a0 Z = true) (hy : y.cls ≠ "java/lang/invoke/MethodHandle" ∧ y.cls ≠ "java/lang/invoke/VarHandle")
    (hI : vm0.interned = Z.vm.interned) (hS : s.Since vm0 k0) (hk : k0 ≤ h.size)
    (hM : MetFree l y (head1 [Cond.code y bytes maxL none] rm) (fun a U => a = as' ∧ Z.Warmed39 U.vm ∧ U.heap = h ∧ U.vm.interned = Z.vm.interned) (fun _ _ _ _ _ => True) (fun _ U o U' => ∃ v L, o = .returned v ∧ Qc v U'.heap L ∧ ReturnedEndW U o U' L rm.cells rm.slots))
    (eT : T.heap = h) (hsize : Ls.size = c.maxLocals) (b : Addr) (argsL rest : List Value) (hst : St = argsL.reverse ++ .ref b :: rest) (hlen : ∀ sig, parseMethodDescriptor y.desc = some sig → argsL.length = sig.parameters.length) (ha : (Value.ref b :: argsL).toArray = as') (W : Nat) (hW : 2 * 0 + (rest.map fun v => v.category).sum ≤ W)
    (hf : rm.frames + 1 ≤ R.frames) (hl : W + (maxL + 11) + rm.locals ≤ R.locals) (hc : cells + rm.cells ≤ R.cells) (hs : slots + rm.slots ≤ R.slots) (hd : decode c.code pc = .ok (.invokespecial index, 3))
    (K : ∀ T' Lc v, Stand p l e R (s.setVm T'.vm) m args below meth c T' (locs ++ Lc) (cells + rm.cells) (slots + rm.slots) → s.Since T'.vm T'.heap.size → Z.Warmed39 (s.setVm T'.vm).vm → (s.setVm T'.vm).vm.findClass own = some m.cls → Qc v T'.heap Lc → own_Go p.tables e below Q (T'.setTop (mkF m (pc + 3) Ls (v.toList ++ rest)))) :
    own_Go p.tables e below Q (T.setTop (mkF m pc Ls St)) := by
  have B : BackS l R p e below (s.setVm vm0) args y 3 W (fun A a => a = as' ∧ A.U.heap = h ∧ A.cells + rm.cells ≤ R.cells ∧ A.slots + rm.slots ≤ R.slots)
      (fun A _ v B => ∃ L, Qc v B.U.heap L ∧ B.locs = A.locs ++ L ∧ B.cells = A.cells + rm.cells ∧ B.slots = A.slots + rm.slots) := by
    refine BackS.of_freeW (bytes := bytes) (maxL := maxL) (ret := none) (E := fun _ _ o t L k n => k = rm.cells ∧ n = rm.slots ∧ ∃ v, o = .returned v ∧ Qc v t.heap L) hM hf hl ?_ ?_ (fun _ _ _ _ _ _ _ _ _ => trivial) ?_ ?_
    · intro m meth c A a Y hp
      have hU : Z.Warmed39 A.U.vm := wtrans hZ Y.warmed
      exact ⟨by show (Cond.and _ .tt).before a A.U = true; rw [Cond.before_and, mv hU w4]; rfl, mv hU w4, mv hU w3, hp.2.2⟩
    · intro m meth c A a g mk Y hp
      exact ⟨hp.1, wtrans hZ Y.warmed, hp.2.1, (show A.U.vm.interned = _ from Y.warmed.interned_eq).trans hI⟩
    · rintro _ _ _ _ ⟨v, L, h1, h2, h3⟩
      exact ⟨L, _, _, h3, rfl, rfl, v, h1, h2⟩
    · rintro m meth c A a g mk v t L k n Y hp _ _ ⟨rfl, rfl, v', e3, e4⟩
      cases e3
      exact ⟨L, e4, rfl, rfl, rfl⟩
  obtain ⟨v, _, ⟨T1, L1, k1, n1⟩, -, X1, hS1, hg1, ⟨Lc, hQ, l1, y1, z1⟩, st1⟩ := X.specialBackS hx (y := y) hy1 hown (mvT hZ w1) (mvT hZ w2) (mvT hZ w4) hy B (g := mkF m pc Ls St) rfl hsize (Steps.refl _) (a := b) (argsL := argsL) (rest := rest) hlen hst hW hd (fun vm1 _ => ⟨ha, eT, hc, hs⟩)
  dsimp only [Pt.U, Pt.locs, Pt.cells, Pt.slots] at X1 l1 y1 z1 st1 hQ hS1 hg1
  subst l1 y1 z1
  have hal := hS1.1
  exact own_tr st1 (K T1 Lc v X1 (foldS hS (eT ▸ hk) hS1 hg1) (State.Warmed39.trans (t := s.setVm vm0) hZ hal) (by rw [show (s.setVm T1.vm).vm = T1.vm from rfl, hal.alike.findClass]; exact hown) hQ)
end OwnWide

theorem own_wSin : ∀ a ∈ Bundle.stringAtoms, a ∈ tables_1 := by decide +kernel
theorem own_wS {Z : State} {a0 : Array Value} (hw : ∀ d ∈ tables_1, d.before a0 Z = true) : ∀ a ∈ Bundle.stringAtoms, a.before a0 Z = true := fun a ha => hw a (own_wSin a ha)
theorem own_chv (y : Int32) (h0 : 0 ≤ y.toInt) (h1 : y.toInt ≤ 255) : y.toUInt32.toUInt16.toUInt32.toInt32 = y := by
  have c := c_i2c y
  apply Int32.toInt_inj.mp; omega
theorem own_ch (x v : Int32) (h : ((x &&& (255 : Int32)).toUInt32.toUInt16.toUInt32.toInt32) = v) : ¬ (255 : Int32) < v := by
  have c1 := c_and x 255 (by decide)
  have l : (255 : Int32).toInt = 255 := by decide
  rw [l] at c1
  rw [own_chv _ (by omega) (by omega)] at h
  subst h
  rw [Int32.lt_iff_toInt_lt, l]; omega
theorem own_chn (x v : Int32) (h : ((x &&& (255 : Int32)).toUInt32.toUInt16.toUInt32.toInt32) = v) : ¬ (255 : Int32) < nar .char v := by
  have c1 := c_and x 255 (by decide)
  have l : (255 : Int32).toInt = 255 := by decide
  rw [l] at c1
  have e := own_chv _ c1.1 c1.2
  rw [e] at h
  subst h
  rw [show nar .char (x &&& 255) = (x &&& 255).toUInt32.toUInt16.toUInt32.toInt32 from rfl, e, Int32.lt_iff_toInt_lt, l]; omega
theorem d1_0 : decode method_2_code 0 = .ok (.iload_n 0, 1) := by decide +kernel
theorem d1_1 : decode method_2_code 1 = .ok (.ifCond .ne 7, 3) := by decide +kernel
theorem d1_4 : decode method_2_code 4 = .ok (.getstatic 7, 3) := by decide +kernel
theorem d1_7 : decode method_2_code 7 = .ok (.areturn, 1) := by decide +kernel
theorem d1_8 : decode method_2_code 8 = .ok (.iload_n 0, 1) := by decide +kernel
theorem d1_9 : decode method_2_code 9 = .ok (.iconst 1, 1) := by decide +kernel
theorem d1_10 : decode method_2_code 10 = .ok (.if_icmp .ne 7, 3) := by decide +kernel
theorem d1_13 : decode method_2_code 13 = .ok (.getstatic 13, 3) := by decide +kernel
theorem d1_16 : decode method_2_code 16 = .ok (.areturn, 1) := by decide +kernel
theorem d1_17 : decode method_2_code 17 = .ok (.iload_n 0, 1) := by decide +kernel
theorem d1_18 : decode method_2_code 18 = .ok (.iconst 2, 1) := by decide +kernel
theorem d1_19 : decode method_2_code 19 = .ok (.if_icmp .ne 7, 3) := by decide +kernel
theorem d1_22 : decode method_2_code 22 = .ok (.getstatic 16, 3) := by decide +kernel
theorem d1_25 : decode method_2_code 25 = .ok (.areturn, 1) := by decide +kernel
theorem d1_26 : decode method_2_code 26 = .ok (.getstatic 19, 3) := by decide +kernel
theorem d1_29 : decode method_2_code 29 = .ok (.areturn, 1) := by decide +kernel
theorem pn_1 : plainName "com/example/time_for_trials/timefortrials/cli/OptionTakesValuePinLaw" = true := by first | (simp [plainName, overriddenIn]; done) | decide +kernel
theorem d2_0 : decode jdk_42_method_3_code 0 = .ok (.aload_n 0, 1) := by decide +kernel
theorem d2_1 : decode jdk_42_method_3_code 1 = .ok (.aload_n 1, 1) := by decide +kernel
theorem d2_2 : decode jdk_42_method_3_code 2 = .ok (.iconst 0, 1) := by decide +kernel
theorem d2_3 : decode jdk_42_method_3_code 3 = .ok (.aload_n 1, 1) := by decide +kernel
theorem d2_4 : decode jdk_42_method_3_code 4 = .ok (.arraylength, 1) := by decide +kernel
theorem d2_5 : decode jdk_42_method_3_code 5 = .ok (.aconst_null, 1) := by decide +kernel
theorem d2_6 : decode jdk_42_method_3_code 6 = .ok (.invokespecial 27, 3) := by decide +kernel
theorem d2_9 : decode jdk_42_method_3_code 9 = .ok (.return_, 1) := by decide +kernel
theorem pn_2 : plainName "java/lang/String" = true := by first | (simp [plainName, overriddenIn]; done) | decide +kernel
theorem d3_0 : decode jdk_42_method_149_code 0 = .ok (.aload_n 0, 1) := by decide +kernel
theorem d3_1 : decode jdk_42_method_149_code 1 = .ok (.invokespecial 1, 3) := by decide +kernel
theorem d3_4 : decode jdk_42_method_149_code 4 = .ok (.iload_n 3, 1) := by decide +kernel
theorem d3_5 : decode jdk_42_method_149_code 5 = .ok (.ifCond .ne 22, 3) := by decide +kernel
theorem d3_8 : decode jdk_42_method_149_code 8 = .ok (.aload_n 0, 1) := by decide +kernel
theorem d3_9 : decode jdk_42_method_149_code 9 = .ok (.ldc 7, 2) := by decide +kernel
theorem d3_11 : decode jdk_42_method_149_code 11 = .ok (.getfield 9, 3) := by decide +kernel
theorem d3_14 : decode jdk_42_method_149_code 14 = .ok (.putfield 9, 3) := by decide +kernel
theorem d3_17 : decode jdk_42_method_149_code 17 = .ok (.aload_n 0, 1) := by decide +kernel
theorem d3_18 : decode jdk_42_method_149_code 18 = .ok (.ldc 7, 2) := by decide +kernel
theorem d3_20 : decode jdk_42_method_149_code 20 = .ok (.getfield 15, 3) := by decide +kernel
theorem d3_23 : decode jdk_42_method_149_code 23 = .ok (.putfield 15, 3) := by decide +kernel
theorem d3_26 : decode jdk_42_method_149_code 26 = .ok (.return_, 1) := by decide +kernel
theorem d3_27 : decode jdk_42_method_149_code 27 = .ok (.getstatic 38, 3) := by decide +kernel
theorem d3_30 : decode jdk_42_method_149_code 30 = .ok (.ifCond .eq 28, 3) := by decide +kernel
theorem d3_33 : decode jdk_42_method_149_code 33 = .ok (.aload_n 1, 1) := by decide +kernel
theorem d3_34 : decode jdk_42_method_149_code 34 = .ok (.iload_n 2, 1) := by decide +kernel
theorem d3_35 : decode jdk_42_method_149_code 35 = .ok (.iload_n 3, 1) := by decide +kernel
theorem d3_36 : decode jdk_42_method_149_code 36 = .ok (.invokestatic 177, 3) := by decide +kernel
theorem d3_39 : decode jdk_42_method_149_code 39 = .ok (.astore 5, 2) := by decide +kernel
theorem d3_41 : decode jdk_42_method_149_code 41 = .ok (.aload_n 0, 1) := by decide +kernel
theorem d3_42 : decode jdk_42_method_149_code 42 = .ok (.aload 5, 2) := by decide +kernel
theorem d3_44 : decode jdk_42_method_149_code 44 = .ok (.iload_n 3, 1) := by decide +kernel
theorem d3_45 : decode jdk_42_method_149_code 45 = .ok (.invokestatic 47, 3) := by decide +kernel
theorem d3_48 : decode jdk_42_method_149_code 48 = .ok (.putfield 15, 3) := by decide +kernel
theorem d3_51 : decode jdk_42_method_149_code 51 = .ok (.aload_n 0, 1) := by decide +kernel
theorem d3_52 : decode jdk_42_method_149_code 52 = .ok (.aload 5, 2) := by decide +kernel
theorem d3_54 : decode jdk_42_method_149_code 54 = .ok (.putfield 9, 3) := by decide +kernel
theorem d3_57 : decode jdk_42_method_149_code 57 = .ok (.return_, 1) := by decide +kernel
theorem d3_58 : decode jdk_42_method_149_code 58 = .ok (.aload_n 0, 1) := by decide +kernel
theorem d3_59 : decode jdk_42_method_149_code 59 = .ok (.iconst 1, 1) := by decide +kernel
theorem d3_60 : decode jdk_42_method_149_code 60 = .ok (.putfield 15, 3) := by decide +kernel
theorem d3_63 : decode jdk_42_method_149_code 63 = .ok (.aload_n 0, 1) := by decide +kernel
theorem d3_64 : decode jdk_42_method_149_code 64 = .ok (.aload_n 1, 1) := by decide +kernel
theorem d3_65 : decode jdk_42_method_149_code 65 = .ok (.iload_n 2, 1) := by decide +kernel
theorem d3_66 : decode jdk_42_method_149_code 66 = .ok (.iload_n 3, 1) := by decide +kernel
theorem d3_67 : decode jdk_42_method_149_code 67 = .ok (.invokestatic 180, 3) := by decide +kernel
theorem d3_70 : decode jdk_42_method_149_code 70 = .ok (.putfield 9, 3) := by decide +kernel
theorem d3_73 : decode jdk_42_method_149_code 73 = .ok (.return_, 1) := by decide +kernel
theorem pn_3 : plainName "java/lang/String" = true := by first | (simp [plainName, overriddenIn]; done) | decide +kernel
theorem d5_0 : decode jdk_42_method_139_code 0 = .ok (.getstatic 38, 3) := by decide +kernel
theorem d5_3 : decode jdk_42_method_139_code 3 = .ok (.ifCond .eq 23, 3) := by decide +kernel
theorem d5_6 : decode jdk_42_method_139_code 6 = .ok (.iload_n 0, 1) := by decide +kernel
theorem d5_7 : decode jdk_42_method_139_code 7 = .ok (.invokestatic 1015, 3) := by decide +kernel
theorem d5_10 : decode jdk_42_method_139_code 10 = .ok (.ifCond .eq 16, 3) := by decide +kernel
theorem d5_13 : decode jdk_42_method_139_code 13 = .ok (.new 10, 3) := by decide +kernel
theorem d5_16 : decode jdk_42_method_139_code 16 = .ok (.dup, 1) := by decide +kernel
theorem d5_17 : decode jdk_42_method_139_code 17 = .ok (.iload_n 0, 1) := by decide +kernel
theorem d5_18 : decode jdk_42_method_139_code 18 = .ok (.invokestatic 1018, 3) := by decide +kernel
theorem d5_21 : decode jdk_42_method_139_code 21 = .ok (.iconst 0, 1) := by decide +kernel
theorem d5_22 : decode jdk_42_method_139_code 22 = .ok (.invokespecial 209, 3) := by decide +kernel
theorem d5_25 : decode jdk_42_method_139_code 25 = .ok (.areturn, 1) := by decide +kernel
theorem d5_26 : decode jdk_42_method_139_code 26 = .ok (.new 10, 3) := by decide +kernel
theorem d5_29 : decode jdk_42_method_139_code 29 = .ok (.dup, 1) := by decide +kernel
theorem d5_30 : decode jdk_42_method_139_code 30 = .ok (.iload_n 0, 1) := by decide +kernel
theorem d5_31 : decode jdk_42_method_139_code 31 = .ok (.invokestatic 1021, 3) := by decide +kernel
theorem d5_34 : decode jdk_42_method_139_code 34 = .ok (.iconst 1, 1) := by decide +kernel
theorem d5_35 : decode jdk_42_method_139_code 35 = .ok (.invokespecial 209, 3) := by decide +kernel
theorem d5_38 : decode jdk_42_method_139_code 38 = .ok (.areturn, 1) := by decide +kernel
theorem pn_5 : plainName "java/lang/String" = true := by first | (simp [plainName, overriddenIn]; done) | decide +kernel
theorem d6_0 : decode jdk_43_method_3_code 0 = .ok (.iload_n 0, 1) := by decide +kernel
theorem d6_1 : decode jdk_43_method_3_code 1 = .ok (.sipush 255, 3) := by decide +kernel
theorem d6_4 : decode jdk_43_method_3_code 4 = .ok (.if_icmp .gt 7, 3) := by decide +kernel
theorem d6_7 : decode jdk_43_method_3_code 7 = .ok (.iconst 1, 1) := by decide +kernel
theorem d6_8 : decode jdk_43_method_3_code 8 = .ok (.goto 4, 3) := by decide +kernel
theorem d6_11 : decode jdk_43_method_3_code 11 = .ok (.iconst 0, 1) := by decide +kernel
theorem d6_12 : decode jdk_43_method_3_code 12 = .ok (.ireturn, 1) := by decide +kernel
theorem pn_6 : plainName "java/lang/StringLatin1" = true := by first | (simp [plainName, overriddenIn]; done) | decide +kernel
theorem d7_0 : decode jdk_43_method_46_code 0 = .ok (.iconst 1, 1) := by decide +kernel
theorem d7_1 : decode jdk_43_method_46_code 1 = .ok (.newarray .byte, 2) := by decide +kernel
theorem d7_3 : decode jdk_43_method_46_code 3 = .ok (.dup, 1) := by decide +kernel
theorem d7_4 : decode jdk_43_method_46_code 4 = .ok (.iconst 0, 1) := by decide +kernel
theorem d7_5 : decode jdk_43_method_46_code 5 = .ok (.iload_n 0, 1) := by decide +kernel
theorem d7_6 : decode jdk_43_method_46_code 6 = .ok (.i2b, 1) := by decide +kernel
theorem d7_7 : decode jdk_43_method_46_code 7 = .ok (.bastore, 1) := by decide +kernel
theorem d7_8 : decode jdk_43_method_46_code 8 = .ok (.areturn, 1) := by decide +kernel
theorem pn_7 : plainName "java/lang/StringLatin1" = true := by first | (simp [plainName, overriddenIn]; done) | decide +kernel
theorem d8_0 : decode jdk_42_method_151_code 0 = .ok (.aload_n 0, 1) := by decide +kernel
theorem d8_1 : decode jdk_42_method_151_code 1 = .ok (.invokespecial 1, 3) := by decide +kernel
theorem d8_4 : decode jdk_42_method_151_code 4 = .ok (.aload_n 0, 1) := by decide +kernel
theorem d8_5 : decode jdk_42_method_151_code 5 = .ok (.aload_n 1, 1) := by decide +kernel
theorem d8_6 : decode jdk_42_method_151_code 6 = .ok (.putfield 9, 3) := by decide +kernel
theorem d8_9 : decode jdk_42_method_151_code 9 = .ok (.aload_n 0, 1) := by decide +kernel
theorem d8_10 : decode jdk_42_method_151_code 10 = .ok (.iload_n 2, 1) := by decide +kernel
theorem d8_11 : decode jdk_42_method_151_code 11 = .ok (.putfield 15, 3) := by decide +kernel
theorem d8_14 : decode jdk_42_method_151_code 14 = .ok (.return_, 1) := by decide +kernel
theorem pn_8 : plainName "java/lang/String" = true := by first | (simp [plainName, overriddenIn]; done) | decide +kernel
theorem d9_0 : decode prog_9_method_1_code 0 = .ok (.aload_n 0, 1) := by decide +kernel
theorem d9_1 : decode prog_9_method_1_code 1 = .ok (.invokespecial 1, 3) := by decide +kernel
theorem d9_4 : decode prog_9_method_1_code 4 = .ok (.aload_n 0, 1) := by decide +kernel
theorem d9_5 : decode prog_9_method_1_code 5 = .ok (.aload_n 1, 1) := by decide +kernel
theorem d9_6 : decode prog_9_method_1_code 6 = .ok (.putfield 7, 3) := by decide +kernel
theorem d9_9 : decode prog_9_method_1_code 9 = .ok (.aload_n 0, 1) := by decide +kernel
theorem d9_10 : decode prog_9_method_1_code 10 = .ok (.aload_n 2, 1) := by decide +kernel
theorem d9_11 : decode prog_9_method_1_code 11 = .ok (.putfield 13, 3) := by decide +kernel
theorem d9_14 : decode prog_9_method_1_code 14 = .ok (.aload_n 0, 1) := by decide +kernel
theorem d9_15 : decode prog_9_method_1_code 15 = .ok (.aload_n 3, 1) := by decide +kernel
theorem d9_16 : decode prog_9_method_1_code 16 = .ok (.putfield 16, 3) := by decide +kernel
theorem d9_19 : decode prog_9_method_1_code 19 = .ok (.aload_n 0, 1) := by decide +kernel
theorem d9_20 : decode prog_9_method_1_code 20 = .ok (.aload 4, 2) := by decide +kernel
theorem d9_22 : decode prog_9_method_1_code 22 = .ok (.putfield 20, 3) := by decide +kernel
theorem d9_25 : decode prog_9_method_1_code 25 = .ok (.return_, 1) := by decide +kernel
theorem pn_9 : plainName "com/example/time_for_trials/timefortrials/cli/Usage$Option" = true := by first | (simp [plainName, overriddenIn]; done) | decide +kernel
theorem d10_0 : decode jdk_30_method_1_code 0 = .ok (.aload_n 0, 1) := by decide +kernel
theorem d10_1 : decode jdk_30_method_1_code 1 = .ok (.invokespecial 1, 3) := by decide +kernel
theorem d10_4 : decode jdk_30_method_1_code 4 = .ok (.return_, 1) := by decide +kernel
theorem pn_10 : plainName "java/lang/Record" = true := by first | (simp [plainName, overriddenIn]; done) | decide +kernel
theorem d11_0 : decode prog_9_method_2_code 0 = .ok (.aload_n 0, 1) := by decide +kernel
theorem d11_1 : decode prog_9_method_2_code 1 = .ok (.getfield 13, 3) := by decide +kernel
theorem d11_4 : decode prog_9_method_2_code 4 = .ok (.ifnull 7, 3) := by decide +kernel
theorem d11_7 : decode prog_9_method_2_code 7 = .ok (.iconst 1, 1) := by decide +kernel
theorem d11_8 : decode prog_9_method_2_code 8 = .ok (.goto 4, 3) := by decide +kernel
theorem d11_11 : decode prog_9_method_2_code 11 = .ok (.iconst 0, 1) := by decide +kernel
theorem d11_12 : decode prog_9_method_2_code 12 = .ok (.ireturn, 1) := by decide +kernel
theorem pn_11 : plainName "com/example/time_for_trials/timefortrials/cli/Usage$Option" = true := by first | (simp [plainName, overriddenIn]; done) | decide +kernel
theorem d12_0 : decode prog_6_method_2_code 0 = .ok (.new 26, 3) := by decide +kernel
theorem d12_3 : decode prog_6_method_2_code 3 = .ok (.dup, 1) := by decide +kernel
theorem d12_4 : decode prog_6_method_2_code 4 = .ok (.aload_n 0, 1) := by decide +kernel
theorem d12_5 : decode prog_6_method_2_code 5 = .ok (.aconst_null, 1) := by decide +kernel
theorem d12_6 : decode prog_6_method_2_code 6 = .ok (.getstatic 28, 3) := by decide +kernel
theorem d12_9 : decode prog_6_method_2_code 9 = .ok (.aload_n 1, 1) := by decide +kernel
theorem d12_10 : decode prog_6_method_2_code 10 = .ok (.invokespecial 34, 3) := by decide +kernel
theorem d12_13 : decode prog_6_method_2_code 13 = .ok (.areturn, 1) := by decide +kernel
theorem pn_12 : plainName "com/example/time_for_trials/timefortrials/cli/Usage" = true := by first | (simp [plainName, overriddenIn]; done) | decide +kernel
theorem d13_0 : decode jdk_52_method_16_code 0 = .ok (.iload_n 2, 1) := by decide +kernel
theorem d13_1 : decode jdk_52_method_16_code 1 = .ok (.newarray .byte, 2) := by decide +kernel
theorem d13_3 : decode jdk_52_method_16_code 3 = .ok (.astore_n 3, 1) := by decide +kernel
theorem d13_4 : decode jdk_52_method_16_code 4 = .ok (.aload_n 0, 1) := by decide +kernel
theorem d13_5 : decode jdk_52_method_16_code 5 = .ok (.iload_n 1, 1) := by decide +kernel
theorem d13_6 : decode jdk_52_method_16_code 6 = .ok (.aload_n 3, 1) := by decide +kernel
theorem d13_7 : decode jdk_52_method_16_code 7 = .ok (.iconst 0, 1) := by decide +kernel
theorem d13_8 : decode jdk_52_method_16_code 8 = .ok (.iload_n 2, 1) := by decide +kernel
theorem d13_9 : decode jdk_52_method_16_code 9 = .ok (.invokestatic 115, 3) := by decide +kernel
theorem d13_12 : decode jdk_52_method_16_code 12 = .ok (.istore 4, 2) := by decide +kernel
theorem d13_14 : decode jdk_52_method_16_code 14 = .ok (.iload 4, 2) := by decide +kernel
theorem d13_16 : decode jdk_52_method_16_code 16 = .ok (.iload_n 2, 1) := by decide +kernel
theorem d13_17 : decode jdk_52_method_16_code 17 = .ok (.if_icmp .eq 40, 3) := by decide +kernel
theorem d13_20 : decode jdk_52_method_16_code 20 = .ok (.aload_n 0, 1) := by decide +kernel
theorem d13_21 : decode jdk_52_method_16_code 21 = .ok (.iload_n 1, 1) := by decide +kernel
theorem d13_22 : decode jdk_52_method_16_code 22 = .ok (.iload_n 2, 1) := by decide +kernel
theorem d13_23 : decode jdk_52_method_16_code 23 = .ok (.invokestatic 119, 3) := by decide +kernel
theorem d13_26 : decode jdk_52_method_16_code 26 = .ok (.astore 5, 2) := by decide +kernel
theorem d13_28 : decode jdk_52_method_16_code 28 = .ok (.aload 5, 2) := by decide +kernel
theorem d13_30 : decode jdk_52_method_16_code 30 = .ok (.iload 4, 2) := by decide +kernel
theorem d13_32 : decode jdk_52_method_16_code 32 = .ok (.invokestatic 71, 3) := by decide +kernel
theorem d13_35 : decode jdk_52_method_16_code 35 = .ok (.sipush 255, 3) := by decide +kernel
theorem d13_38 : decode jdk_52_method_16_code 38 = .ok (.if_icmp .gt 16, 3) := by decide +kernel
theorem d13_41 : decode jdk_52_method_16_code 41 = .ok (.aload 5, 2) := by decide +kernel
theorem d13_43 : decode jdk_52_method_16_code 43 = .ok (.iconst 0, 1) := by decide +kernel
theorem d13_44 : decode jdk_52_method_16_code 44 = .ok (.aload_n 3, 1) := by decide +kernel
theorem d13_45 : decode jdk_52_method_16_code 45 = .ok (.iconst 0, 1) := by decide +kernel
theorem d13_46 : decode jdk_52_method_16_code 46 = .ok (.iload_n 2, 1) := by decide +kernel
theorem d13_47 : decode jdk_52_method_16_code 47 = .ok (.invokestatic 123, 3) := by decide +kernel
theorem d13_50 : decode jdk_52_method_16_code 50 = .ok (.iload_n 2, 1) := by decide +kernel
theorem d13_51 : decode jdk_52_method_16_code 51 = .ok (.if_icmp .eq 6, 3) := by decide +kernel
theorem d13_54 : decode jdk_52_method_16_code 54 = .ok (.aload 5, 2) := by decide +kernel
theorem d13_56 : decode jdk_52_method_16_code 56 = .ok (.areturn, 1) := by decide +kernel
theorem d13_57 : decode jdk_52_method_16_code 57 = .ok (.aload_n 3, 1) := by decide +kernel
theorem d13_58 : decode jdk_52_method_16_code 58 = .ok (.areturn, 1) := by decide +kernel
theorem pn_13 : plainName "java/lang/StringUTF16" = true := by first | (simp [plainName, overriddenIn]; done) | decide +kernel
theorem d14_0 : decode jdk_52_method_21_code 0 = .ok (.iconst 0, 1) := by decide +kernel
theorem d14_1 : decode jdk_52_method_21_code 1 = .ok (.istore 5, 2) := by decide +kernel
theorem d14_3 : decode jdk_52_method_21_code 3 = .ok (.iload 5, 2) := by decide +kernel
theorem d14_5 : decode jdk_52_method_21_code 5 = .ok (.iload 4, 2) := by decide +kernel
theorem d14_7 : decode jdk_52_method_21_code 7 = .ok (.if_icmp .ge 37, 3) := by decide +kernel
theorem d14_10 : decode jdk_52_method_21_code 10 = .ok (.aload_n 0, 1) := by decide +kernel
theorem d14_11 : decode jdk_52_method_21_code 11 = .ok (.iload_n 1, 1) := by decide +kernel
theorem d14_12 : decode jdk_52_method_21_code 12 = .ok (.caload, 1) := by decide +kernel
theorem d14_13 : decode jdk_52_method_21_code 13 = .ok (.istore 6, 2) := by decide +kernel
theorem d14_15 : decode jdk_52_method_21_code 15 = .ok (.iload 6, 2) := by decide +kernel
theorem d14_17 : decode jdk_52_method_21_code 17 = .ok (.sipush 255, 3) := by decide +kernel
theorem d14_20 : decode jdk_52_method_21_code 20 = .ok (.if_icmp .le 6, 3) := by decide +kernel
theorem d14_23 : decode jdk_52_method_21_code 23 = .ok (.iload 5, 2) := by decide +kernel
theorem d14_25 : decode jdk_52_method_21_code 25 = .ok (.ireturn, 1) := by decide +kernel
theorem d14_26 : decode jdk_52_method_21_code 26 = .ok (.aload_n 2, 1) := by decide +kernel
theorem d14_27 : decode jdk_52_method_21_code 27 = .ok (.iload_n 3, 1) := by decide +kernel
theorem d14_28 : decode jdk_52_method_21_code 28 = .ok (.iload 6, 2) := by decide +kernel
theorem d14_30 : decode jdk_52_method_21_code 30 = .ok (.i2b, 1) := by decide +kernel
theorem d14_31 : decode jdk_52_method_21_code 31 = .ok (.bastore, 1) := by decide +kernel
theorem d14_32 : decode jdk_52_method_21_code 32 = .ok (.iinc 1 1, 3) := by decide +kernel
theorem d14_35 : decode jdk_52_method_21_code 35 = .ok (.iinc 3 1, 3) := by decide +kernel
theorem d14_38 : decode jdk_52_method_21_code 38 = .ok (.iinc 5 1, 3) := by decide +kernel
theorem d14_41 : decode jdk_52_method_21_code 41 = .ok (.goto (-38), 3) := by decide +kernel
theorem d14_44 : decode jdk_52_method_21_code 44 = .ok (.iload 4, 2) := by decide +kernel
theorem d14_46 : decode jdk_52_method_21_code 46 = .ok (.ireturn, 1) := by decide +kernel
theorem pn_14 : plainName "java/lang/StringUTF16" = true := by first | (simp [plainName, overriddenIn]; done) | decide +kernel
theorem d15_0 : decode jdk_52_method_15_code 0 = .ok (.iload_n 1, 1) := by decide +kernel
theorem d15_1 : decode jdk_52_method_15_code 1 = .ok (.aload_n 0, 1) := by decide +kernel
theorem d15_2 : decode jdk_52_method_15_code 2 = .ok (.arraylength, 1) := by decide +kernel
theorem d15_3 : decode jdk_52_method_15_code 3 = .ok (.isub, 1) := by decide +kernel
theorem d15_4 : decode jdk_52_method_15_code 4 = .ok (.bipush 31, 2) := by decide +kernel
theorem d15_6 : decode jdk_52_method_15_code 6 = .ok (.iushr, 1) := by decide +kernel
theorem d15_7 : decode jdk_52_method_15_code 7 = .ok (.i2b, 1) := by decide +kernel
theorem d15_8 : decode jdk_52_method_15_code 8 = .ok (.ireturn, 1) := by decide +kernel
theorem pn_15 : plainName "java/lang/StringUTF16" = true := by first | (simp [plainName, overriddenIn]; done) | decide +kernel
theorem pn_0 : plainName "com/example/time_for_trials/timefortrials/cli/OptionTakesValuePinLaw" = true := by first | (simp [plainName, overriddenIn]; done) | decide +kernel
set_option maxRecDepth 65536 in
set_option maxHeartbeats 40000000 in
theorem rm1 (l : Launch) (Z : State) (a0 : Array Value) (hw : ∀ d ∈ tables_1, d.before a0 Z = true) (ws : List Jvm.Cond) (p1 : Int32) (b_ONCE b_AT_MOST_ONCE b_AT_LEAST_ONCE b_ANY_NUMBER : Addr) (h0 : Heap) (n0 : Nat) (Z0 : n0 ≤ h0.size) (PS_ONCE : Sta Z h0 "com/example/time_for_trials/timefortrials/cli/Usage$Occurs" "ONCE" "Lcom/example/time_for_trials/timefortrials/cli/Usage$Occurs;" (.ref b_ONCE)) (PS_AT_MOST_ONCE : Sta Z h0 "com/example/time_for_trials/timefortrials/cli/Usage$Occurs" "AT_MOST_ONCE" "Lcom/example/time_for_trials/timefortrials/cli/Usage$Occurs;" (.ref b_AT_MOST_ONCE)) (PS_AT_LEAST_ONCE : Sta Z h0 "com/example/time_for_trials/timefortrials/cli/Usage$Occurs" "AT_LEAST_ONCE" "Lcom/example/time_for_trials/timefortrials/cli/Usage$Occurs;" (.ref b_AT_LEAST_ONCE)) (PS_ANY_NUMBER : Sta Z h0 "com/example/time_for_trials/timefortrials/cli/Usage$Occurs" "ANY_NUMBER" "Lcom/example/time_for_trials/timefortrials/cli/Usage$Occurs;" (.ref b_ANY_NUMBER)) :
    MetFree l (⟨"com/example/time_for_trials/timefortrials/cli/OptionTakesValuePinLaw", "occursOf", "(I)Lcom/example/time_for_trials/timefortrials/cli/Usage$Occurs;"⟩ : MethodName) (head1 (Jvm.Cond.code (⟨"com/example/time_for_trials/timefortrials/cli/OptionTakesValuePinLaw", "occursOf", "(I)Lcom/example/time_for_trials/timefortrials/cli/Usage$Occurs;"⟩ : MethodName) method_2_code 1 (some (.object "com/example/time_for_trials/timefortrials/cli/Usage$Occurs")) :: ws) ({ frames := 0, cells := 0, slots := 0, locals := 0 } : Room)) (fun a U => a = #[(.int p1)] ∧ Z.Warmed39 U.vm ∧ U.heap = h0) (fun _ _ _ _ _ => True) (fun _ U o U' => ∃ vv LL, o = .returned vv ∧ own_ap (fun v h L => ∃ bo : Addr, v = some (.ref bo) ∧ Fr n0 L ∧ h = h0) vv U'.heap LL ∧ FrameEnd U o U' LL 0 0) := by
  refine MetFree.of_bodySF (plainFor_of_name pn_1) hisR ?_
  intro p e s m args below meth c s₁ Bd hml0 hP hK
  obtain ⟨rfl, hZ, hh⟩ := hP
  have hx := Bd.exec
  have hby := Bd.bytes
  have hml : c.maxLocals = 1 := hml0
  have hown : s.vm.findClass "com/example/time_for_trials/timefortrials/cli/OptionTakesValuePinLaw" = some m.cls := findClass_of_methodNamed Bd.named
  have hnm := (name_of_methodNamed Bd.named Bd.method).1
  have X0 : Stand p l e ({ frames := 0, cells := 0, slots := 0, locals := 0 } : Room) s m #[(.int p1)] below meth c s₁ [] 0 0 := Stand.of_body Bd
  have e0 : s₁.heap = h0 := by rw [← hh, Bd.state]; rfl
  have N0 := Fr.nil n0
  show own_Go p.tables e below (own_Q s (fun v h L => ∃ bo : Addr, v = some (.ref bo) ∧ Fr n0 L ∧ h = h0) 0 0) (s₁.setTop (entryFrame m #[(.int p1)] 1))
  rw [show entryFrame m #[(.int p1)] 1 = mkF m 0 #[.val (.int p1)] [] from by first | (simp [entryFrame, mkF, argsToLocals, Value.category]; done) | rfl]
  show own_Go _ _ _ _ (s₁.setTop (mkF m 0 #[.val (.int p1)] []))
  refine own_by (fun _ k => XS.iloadN X0.here hx rfl (hb hby d1_0) rfl k) ?_
  show own_Go _ _ _ _ (s₁.setTop (mkF m 1 #[.val (.int p1)] [(.int p1)]))
  by_cases hc1 : p1 = (0 : Int32)
  · --
    refine own_by (fun _ k => XS.ifNo X0.here hx rfl (hb hby d1_1) rfl ((if0 _ _).trans (teq hc1).2) k) ?_
    show own_Go _ _ _ _ (s₁.setTop (mkF m 4 #[.val (.int p1)] []))
    obtain ⟨T2, X2, e2, st2⟩ := getS2 X0 hx hZ hown (host := "") (Or.inl (hw _ (List.mem_of_getElem? (i := 4) rfl))) Via.refl e0 PS_ONCE (g := (mkF m 4 #[.val (.int p1)] [])) rfl (hb hby d1_4)
    refine own_by st2 ?_
    show own_Go _ _ _ _ (T2.setTop (mkF m 7 #[.val (.int p1)] [(.ref b_ONCE)]))
    exact own_retA X2 hx Bd.notSynchronized e2 Bd.returns rfl rfl rfl (hb hby d1_7) (⟨_, rfl, N0, rfl⟩) (by decide) (by decide)
  · --
    refine own_by (fun _ k => XS.ifYes X0.here hx rfl (pc0 := 1) (pc' := 8) rfl (hb hby d1_1) rfl ((if0 _ _).trans (feq hc1).2) (by decide) (by decide) k) ?_
    refine own_by (fun _ k => XS.iloadN X0.here hx rfl (hb hby d1_8) rfl k) ?_
    refine own_by (fun _ k => XS.iconst X0.here hx rfl (hb hby d1_9) k) ?_
    show own_Go _ _ _ _ (s₁.setTop (mkF m 10 #[.val (.int p1)] [(.int (1 : Int32)), (.int p1)]))
    by_cases hc3 : p1 = (1 : Int32)
    · --
      refine own_by (fun _ k => XS.icmpNo X0.here hx rfl (hb hby d1_10) rfl (teq hc3).2 k) ?_
      show own_Go _ _ _ _ (s₁.setTop (mkF m 13 #[.val (.int p1)] []))
      obtain ⟨T4, X4, e4, st4⟩ := getS2 X0 hx hZ hown (host := "") (Or.inl (hw _ (List.mem_of_getElem? (i := 88) rfl))) Via.refl e0 PS_AT_MOST_ONCE (g := (mkF m 13 #[.val (.int p1)] [])) rfl (hb hby d1_13)
      refine own_by st4 ?_
      show own_Go _ _ _ _ (T4.setTop (mkF m 16 #[.val (.int p1)] [(.ref b_AT_MOST_ONCE)]))
      exact own_retA X4 hx Bd.notSynchronized e4 Bd.returns rfl rfl rfl (hb hby d1_16) (⟨_, rfl, N0, rfl⟩) (by decide) (by decide)
    · --
      refine own_by (fun _ k => XS.icmpYes X0.here hx rfl (pc0 := 10) (pc' := 17) rfl (hb hby d1_10) rfl (feq hc3).2 (by decide) (by decide) k) ?_
      refine own_by (fun _ k => XS.iloadN X0.here hx rfl (hb hby d1_17) rfl k) ?_
      refine own_by (fun _ k => XS.iconst X0.here hx rfl (hb hby d1_18) k) ?_
      show own_Go _ _ _ _ (s₁.setTop (mkF m 19 #[.val (.int p1)] [(.int (2 : Int32)), (.int p1)]))
      by_cases hc5 : p1 = (2 : Int32)
      · --
        refine own_by (fun _ k => XS.icmpNo X0.here hx rfl (hb hby d1_19) rfl (teq hc5).2 k) ?_
        show own_Go _ _ _ _ (s₁.setTop (mkF m 22 #[.val (.int p1)] []))
        obtain ⟨T6, X6, e6, st6⟩ := getS2 X0 hx hZ hown (host := "") (Or.inl (hw _ (List.mem_of_getElem? (i := 89) rfl))) Via.refl e0 PS_AT_LEAST_ONCE (g := (mkF m 22 #[.val (.int p1)] [])) rfl (hb hby d1_22)
        refine own_by st6 ?_
        show own_Go _ _ _ _ (T6.setTop (mkF m 25 #[.val (.int p1)] [(.ref b_AT_LEAST_ONCE)]))
        exact own_retA X6 hx Bd.notSynchronized e6 Bd.returns rfl rfl rfl (hb hby d1_25) (⟨_, rfl, N0, rfl⟩) (by decide) (by decide)
      · --
        refine own_by (fun _ k => XS.icmpYes X0.here hx rfl (pc0 := 19) (pc' := 26) rfl (hb hby d1_19) rfl (feq hc5).2 (by decide) (by decide) k) ?_
        show own_Go _ _ _ _ (s₁.setTop (mkF m 26 #[.val (.int p1)] []))
        obtain ⟨T7, X7, e7, st7⟩ := getS2 X0 hx hZ hown (host := "") (Or.inl (hw _ (List.mem_of_getElem? (i := 91) rfl))) Via.refl e0 PS_ANY_NUMBER (g := (mkF m 26 #[.val (.int p1)] [])) rfl (hb hby d1_26)
        refine own_by st7 ?_
        show own_Go _ _ _ _ (T7.setTop (mkF m 29 #[.val (.int p1)] [(.ref b_ANY_NUMBER)]))
        exact own_retA X7 hx Bd.notSynchronized e7 Bd.returns rfl rfl rfl (hb hby d1_29) (⟨_, rfl, N0, rfl⟩) (by decide) (by decide)
set_option maxRecDepth 65536 in
set_option maxHeartbeats 40000000 in
theorem rm6 (l : Launch) (Z : State) (a0 : Array Value) (hw : ∀ d ∈ tables_1, d.before a0 Z = true) (ws : List Jvm.Cond) (p1 : Int32)  (h0 : Heap) (n0 : Nat) (Z0 : n0 ≤ h0.size) (Pp : ¬ (255 : Int32) < p1) :
    MetFree l (⟨"java/lang/StringLatin1", "canEncode", "(C)Z"⟩ : MethodName) (head1 (Jvm.Cond.code (⟨"java/lang/StringLatin1", "canEncode", "(C)Z"⟩ : MethodName) jdk_43_method_3_code 1 (some .boolean) :: ws) ({ frames := 0, cells := 0, slots := 0, locals := 0 } : Room)) (fun a U => a = #[(.int p1)] ∧ Z.Warmed39 U.vm ∧ U.heap = h0) (fun _ _ _ _ _ => True) (fun _ U o U' => ∃ vv LL, o = .returned vv ∧ own_ap (fun v h L => v = some (.int 1) ∧ Fr n0 L ∧ h = h0) vv U'.heap LL ∧ FrameEnd U o U' LL 0 0) := by
  refine MetFree.of_bodySF (plainFor_of_name pn_6) hisR ?_
  intro p e s m args below meth c s₁ Bd hml0 hP hK
  obtain ⟨rfl, hZ, hh⟩ := hP
  have hx := Bd.exec
  have hby := Bd.bytes
  have hml : c.maxLocals = 1 := hml0
  have hown : s.vm.findClass "java/lang/StringLatin1" = some m.cls := findClass_of_methodNamed Bd.named
  have hnm := (name_of_methodNamed Bd.named Bd.method).1
  have X0 : Stand p l e ({ frames := 0, cells := 0, slots := 0, locals := 0 } : Room) s m #[(.int p1)] below meth c s₁ [] 0 0 := Stand.of_body Bd
  have e0 : s₁.heap = h0 := by rw [← hh, Bd.state]; rfl
  have N0 := Fr.nil n0
  show own_Go p.tables e below (own_Q s (fun v h L => v = some (.int 1) ∧ Fr n0 L ∧ h = h0) 0 0) (s₁.setTop (entryFrame m #[(.int p1)] 1))
  rw [show entryFrame m #[(.int p1)] 1 = mkF m 0 #[.val (.int p1)] [] from by first | (simp [entryFrame, mkF, argsToLocals, Value.category]; done) | rfl]
  show own_Go _ _ _ _ (s₁.setTop (mkF m 0 #[.val (.int p1)] []))
  refine own_by (fun _ k => XS.iloadN X0.here hx rfl (hb hby d6_0) rfl k) ?_
  refine own_by (fun _ k => XS.sipush X0.here hx rfl (hb hby d6_1) k) ?_
  show own_Go _ _ _ _ (s₁.setTop (mkF m 4 #[.val (.int p1)] [(.int (255 : Int32)), (.int p1)]))
  refine own_by (fun _ k => XS.icmpNo X0.here hx rfl (hb hby d6_4) rfl (flt Pp).2.2.1 k) ?_
  refine own_by (fun _ k => XS.iconst X0.here hx rfl (hb hby d6_7) k) ?_
  show own_Go _ _ _ _ (s₁.setTop (mkF m 8 #[.val (.int p1)] [(.int (1 : Int32))]))
  refine own_by (fun _ k => XS.goto X0.here hx rfl (pc0 := 8) (pc' := 12) rfl (hb hby d6_8) (by decide) (by decide) k) ?_
  show own_Go _ _ _ _ (s₁.setTop (mkF m 12 #[.val (.int p1)] [(.int (1 : Int32))]))
  exact own_retN X0 hx Bd.notSynchronized e0 Bd.returns (by simp) (hb hby d6_12) (⟨rfl, N0, rfl⟩) (by decide) (by decide)
set_option maxRecDepth 65536 in
set_option maxHeartbeats 40000000 in
theorem rm7 (l : Launch) (Z : State) (a0 : Array Value) (hw : ∀ d ∈ tables_1, d.before a0 Z = true) (ws : List Jvm.Cond) (p1 : Int32)  (h0 : Heap) (n0 : Nat) (Z0 : n0 ≤ h0.size) :
    MetFree l (⟨"java/lang/StringLatin1", "toBytes", "(C)[B"⟩ : MethodName) (head1 (Jvm.Cond.code (⟨"java/lang/StringLatin1", "toBytes", "(C)[B"⟩ : MethodName) jdk_43_method_46_code 1 (some (.array .byte)) :: ws) ({ frames := 0, cells := 1, slots := 1, locals := 0 } : Room)) (fun a U => a = #[(.int p1)] ∧ Z.Warmed39 U.vm ∧ U.heap = h0) (fun _ _ _ _ _ => True) (fun _ U o U' => ∃ vv LL, o = .returned vv ∧ own_ap (fun v h L => ∃ bb : Addr, v = some (.ref bb) ∧ Fr n0 L ∧ Keep h0 h []) vv U'.heap LL ∧ FrameEnd U o U' LL 1 1) := by
  refine MetFree.of_bodySF (plainFor_of_name pn_7) hisR ?_
  intro p e s m args below meth c s₁ Bd hml0 hP hK
  obtain ⟨rfl, hZ, hh⟩ := hP
  have hx := Bd.exec
  have hby := Bd.bytes
  have hml : c.maxLocals = 1 := hml0
  have hown : s.vm.findClass "java/lang/StringLatin1" = some m.cls := findClass_of_methodNamed Bd.named
  have hnm := (name_of_methodNamed Bd.named Bd.method).1
  have X0 : Stand p l e ({ frames := 0, cells := 1, slots := 1, locals := 0 } : Room) s m #[(.int p1)] below meth c s₁ [] 0 0 := Stand.of_body Bd
  have e0 : s₁.heap = h0 := by rw [← hh, Bd.state]; rfl
  have N0 := Fr.nil n0
  show own_Go p.tables e below (own_Q s (fun v h L => ∃ bb : Addr, v = some (.ref bb) ∧ Fr n0 L ∧ Keep h0 h []) 1 1) (s₁.setTop (entryFrame m #[(.int p1)] 1))
  rw [show entryFrame m #[(.int p1)] 1 = mkF m 0 #[.val (.int p1)] [] from by first | (simp [entryFrame, mkF, argsToLocals, Value.category]; done) | rfl]
  show own_Go _ _ _ _ (s₁.setTop (mkF m 0 #[.val (.int p1)] []))
  refine own_by (fun _ k => XS.iconst X0.here hx rfl (hb hby d7_0) k) ?_
  show own_Go _ _ _ _ (s₁.setTop (mkF m 1 #[.val (.int p1)] [(.int (1 : Int32))]))
  refine own_newP X0 hx hZ (hw _ (List.mem_of_getElem? (i := 22) rfl)) e0 1 (by decide) 1 (by decide) (by decide) (by decide) (by decide) (hb hby d7_1) ?_
  intro T1 h1 X1 e1 E1 A1
  show own_Go _ _ _ _ (T1.setTop (mkF m 3 #[.val (.int p1)] [.ref h0.size]))
  obtain ⟨b1, g1⟩ : ∃ z, z = h0.size := ⟨_, rfl⟩
  rw [← g1] at A1
  refine own_gen g1.symm (fun z_ => T1.setTop (mkF m 3 #[.val (.int p1)] [.ref z_])) ?_
  have ge1 : n0 ≤ b1 := Nat.le_trans Z0 (Nat.le_of_eq g1.symm)
  have nw1 : h0.size ≤ b1 := Nat.le_trans (Keep.refl h0 []).1 (Nat.le_of_eq g1.symm)
  have f2 := (Keep.refl h0 []).ext E1
  have Z1 := Nat.le_trans Z0 E1.1
  have f3 : own_AI Z h1 b1 .byte 1 (fun _ => 0) := A1
  show own_Go _ _ _ _ (T1.setTop (mkF m 3 #[.val (.int p1)] [(.ref b1)]))
  refine own_by (fun _ k => XS.dup X1.here hx rfl (hb hby d7_3) rfl rfl k) ?_
  refine own_by (fun _ k => XS.iconst X1.here hx rfl (hb hby d7_4) k) ?_
  refine own_by (fun _ k => XS.iloadN X1.here hx rfl (hb hby d7_5) rfl k) ?_
  show own_Go _ _ _ _ (T1.setTop (mkF m 6 #[.val (.int p1)] [(.int p1), (.int (0 : Int32)), (.ref b1), (.ref b1)]))
  refine own_by (fun _ k => XS.i2b X1.here hx rfl (hb hby d7_6) rfl k) ?_
  show own_Go _ _ _ _ (T1.setTop (mkF m 7 #[.val (.int p1)] [(.int (p1.toInt8.toInt32)), (.int (0 : Int32)), (.ref b1), (.ref b1)]))
  refine own_bas X1 hx hZ e1 f3 0 (by decide) (by decide) (hb hby d7_7) ?_
  intro T4 h4 X4 e4 W4 A4
  have f5 := f2.wr W4 (Or.inr nw1)
  have N4 := Fr.snoc X4 N0 ge1
  have Z4 := own_size_wr W4 Z1
  obtain ⟨fn4, hfn4⟩ : ∃ gf_ : Nat → Int32, gf_ = own_upd (fun _ => 0) 0 (nar .byte (p1.toInt8.toInt32)) := ⟨_, rfl⟩
  rw [← hfn4] at A4
  show own_Go _ _ _ _ (T4.setTop (mkF m 8 #[.val (.int p1)] [(.ref b1)]))
  exact own_retA X4 hx Bd.notSynchronized e4 Bd.returns rfl rfl rfl (hb hby d7_8) (⟨_, rfl, N4, f5⟩) (by decide) (by decide)
set_option maxRecDepth 65536 in
set_option maxHeartbeats 40000000 in
theorem rm8 (l : Launch) (Z : State) (a0 : Array Value) (hw : ∀ d ∈ tables_1, d.before a0 Z = true) (ws : List Jvm.Cond) (a1 : Addr) (b1 : Addr) (p2 : Int32)  (h0 : Heap) (n0 : Nat) (Z0 : n0 ≤ h0.size) (PE : Exa Z h0 a1 "java/lang/String") (PF1 : Fld Z h0 a1 "java/lang/String" "value" "[B" .null) (PF2 : Fld Z h0 a1 "java/lang/String" "coder" "B" (.int 0)) (Pg1 : n0 ≤ a1) :
    MetFree l (⟨"java/lang/String", "<init>", "([BB)V"⟩ : MethodName) (head1 (Jvm.Cond.code (⟨"java/lang/String", "<init>", "([BB)V"⟩ : MethodName) jdk_42_method_151_code 3 none :: ws) ({ frames := 1, cells := 0, slots := 0, locals := 12 } : Room)) (fun a U => a = #[(.ref a1), (.ref b1), (.int p2)] ∧ Z.Warmed39 U.vm ∧ U.heap = h0) (fun _ _ _ _ _ => True) (fun _ U o U' => ∃ vv LL, o = .returned vv ∧ own_ap (fun v h L => v = none ∧ Fr n0 L ∧ Keep h0 h [a1]) vv U'.heap LL ∧ FrameEnd U o U' LL 0 0) := by
  refine MetFree.of_bodySF (plainFor_of_name pn_8) hisR ?_
  intro p e s m args below meth c s₁ Bd hml0 hP hK
  obtain ⟨rfl, hZ, hh⟩ := hP
  have hx := Bd.exec
  have hby := Bd.bytes
  have hml : c.maxLocals = 3 := hml0
  have hown : s.vm.findClass "java/lang/String" = some m.cls := findClass_of_methodNamed Bd.named
  have hnm := (name_of_methodNamed Bd.named Bd.method).1
  have X0 : Stand p l e ({ frames := 1, cells := 0, slots := 0, locals := 12 } : Room) s m #[(.ref a1), (.ref b1), (.int p2)] below meth c s₁ [] 0 0 := Stand.of_body Bd
  have e0 : s₁.heap = h0 := by rw [← hh, Bd.state]; rfl
  have N0 := Fr.nil n0
  show own_Go p.tables e below (own_Q s (fun v h L => v = none ∧ Fr n0 L ∧ Keep h0 h [a1]) 0 0) (s₁.setTop (entryFrame m #[(.ref a1), (.ref b1), (.int p2)] 3))
  rw [show entryFrame m #[(.ref a1), (.ref b1), (.int p2)] 3 = mkF m 0 #[.val (.ref a1), .val (.ref b1), .val (.int p2)] [] from by first | (simp [entryFrame, mkF, argsToLocals, Value.category]; done) | rfl]
  show own_Go _ _ _ _ (s₁.setTop (mkF m 0 #[.val (.ref a1), .val (.ref b1), .val (.int p2)] []))
  refine own_by (fun _ k => XS.aloadN X0.here hx rfl (hb hby d8_0) rfl rfl k) ?_
  show own_Go _ _ _ _ (s₁.setTop (mkF m 1 #[.val (.ref a1), .val (.ref b1), .val (.int p2)] [(.ref a1)]))
  obtain ⟨T1, X1, e1, st1⟩ := initO X0 hx hZ hown (hw _ (List.mem_of_getElem? (i := 18) rfl)) (hw _ (List.mem_of_getElem? (i := 19) rfl)) (hw _ (List.mem_of_getElem? (i := 20) rfl)) e0 (g := (mkF m 1 #[.val (.ref a1), .val (.ref b1), .val (.int p2)] [(.ref a1)])) rfl (by rw [hml]; rfl) rfl (hb hby d8_1) (by decide) (W := 0) (by show 2 * 0 + _ ≤ _; exact Nat.le_of_eq rfl) (by decide)
  refine own_by st1 ?_
  refine own_by (fun _ k => XS.aloadN X1.here hx rfl (hb hby d8_4) rfl rfl k) ?_
  refine own_by (fun _ k => XS.aloadN X1.here hx rfl (hb hby d8_5) rfl rfl k) ?_
  show own_Go _ _ _ _ (T1.setTop (mkF m 6 #[.val (.ref a1), .val (.ref b1), .val (.int p2)] [(.ref b1), (.ref a1)]))
  obtain ⟨T2, h2, X2, e2, W2, st2⟩ := putF X1 hx hZ hown (host := "") (Or.inl (hw _ (List.mem_of_getElem? (i := 27) rfl))) Via.refl e1 PF1 PE (Or.inr ⟨(hw _ (List.mem_of_getElem? (i := 23) rfl)), rfl, hnm⟩) (hw _ (List.mem_of_getElem? (i := 8) rfl)) (ty := (.array .byte)) (by decide) rfl rfl (g := (mkF m 6 #[.val (.ref a1), .val (.ref b1), .val (.int p2)] [(.ref b1), (.ref a1)])) rfl rfl (hb hby d8_6)
  refine own_by st2 ?_
  have f3 := PF1.same W2
  have f4 := PE.wr W2
  have f5 := PF2.other W2 (Or.inr (slot_ne (Or.inr (hw _ (List.mem_of_getElem? (i := 24) rfl))) (Or.inr (hw _ (List.mem_of_getElem? (i := 23) rfl))) (by decide) (t := .byte) (t' := (.array .byte)) (by decide) (by decide)))
  have f6 := (Keep.refl h0 [a1]).wr W2 (Or.inl (List.mem_of_getElem? (i := 0) rfl))
  have N2 := Fr.snoc X2 N0 Pg1
  have Z2 := own_size_wr W2 Z0
  show own_Go _ _ _ _ (T2.setTop (mkF m 9 #[.val (.ref a1), .val (.ref b1), .val (.int p2)] []))
  refine own_by (fun _ k => XS.aloadN X2.here hx rfl (hb hby d8_9) rfl rfl k) ?_
  refine own_by (fun _ k => XS.iloadN X2.here hx rfl (hb hby d8_10) rfl k) ?_
  show own_Go _ _ _ _ (T2.setTop (mkF m 11 #[.val (.ref a1), .val (.ref b1), .val (.int p2)] [(.int p2), (.ref a1)]))
  obtain ⟨T7, h7, X7, e7, W7, st7⟩ := putFN X2 hx hZ hown (hw _ (List.mem_of_getElem? (i := 28) rfl)) Via.refl e2 f5 f4 (Or.inr ⟨(hw _ (List.mem_of_getElem? (i := 24) rfl)), rfl, hnm⟩) (hw _ (List.mem_of_getElem? (i := 8) rfl)) (ty := .byte) (v' := (.int (nar .byte p2))) (by decide) rfl (fits_nar_byte _) (g := (mkF m 11 #[.val (.ref a1), .val (.ref b1), .val (.int p2)] [(.int p2), (.ref a1)])) rfl rfl (hb hby d8_11)
  refine own_by st7 ?_
  have f8 := f5.same W7
  have f9 := f4.wr W7
  have f10 := f3.other W7 (Or.inr (slot_ne (Or.inr (hw _ (List.mem_of_getElem? (i := 23) rfl))) (Or.inr (hw _ (List.mem_of_getElem? (i := 24) rfl))) (by decide) (t := (.array .byte)) (t' := .byte) (by decide) (by decide)))
  have f11 := f6.wr W7 (Or.inl (List.mem_of_getElem? (i := 0) rfl))
  have N7 := Fr.snoc X7 N2 Pg1
  have Z7 := own_size_wr W7 Z2
  show own_Go _ _ _ _ (T7.setTop (mkF m 14 #[.val (.ref a1), .val (.ref b1), .val (.int p2)] []))
  exact own_retV X7 hx Bd.notSynchronized e7 Bd.returns (hb hby d8_14) (⟨rfl, N7, f11⟩) (by decide) (by decide)
set_option maxRecDepth 65536 in
set_option maxHeartbeats 40000000 in
theorem rm5 (l : Launch) (Z : State) (a0 : Array Value) (hw : ∀ d ∈ tables_1, d.before a0 Z = true) (ws : List Jvm.Cond) (p1 : Int32) (cs : Int32) (h0 : Heap) (n0 : Nat) (Z0 : n0 ≤ h0.size) (PS : Sta Z h0 "java/lang/String" "COMPACT_STRINGS" "Z" (.int cs)) (Pcs : ¬ cs = 0) (Pp : ¬ (255 : Int32) < p1) :
    MetFree l (⟨"java/lang/String", "valueOf", "(C)Ljava/lang/String;"⟩ : MethodName) (head1 (Jvm.Cond.code (⟨"java/lang/String", "valueOf", "(C)Ljava/lang/String;"⟩ : MethodName) jdk_42_method_139_code 1 (some (.object "java/lang/String")) :: ws) ({ frames := 2, cells := 2, slots := 5, locals := 40 } : Room)) (fun a U => a = #[(.int p1)] ∧ Z.Warmed39 U.vm ∧ U.heap = h0) (fun _ _ _ _ _ => True) (fun _ U o U' => ∃ vv LL, o = .returned vv ∧ own_ap (fun v h L => ∃ bb : Addr, v = some (.ref bb) ∧ Fr n0 L ∧ Keep h0 h []) vv U'.heap LL ∧ FrameEnd U o U' LL 2 5) := by
  refine MetFree.of_bodySF (plainFor_of_name pn_5) hisR ?_
  intro p e s m args below meth c s₁ Bd hml0 hP hK
  obtain ⟨rfl, hZ, hh⟩ := hP
  have hx := Bd.exec
  have hby := Bd.bytes
  have hml : c.maxLocals = 1 := hml0
  have hown : s.vm.findClass "java/lang/String" = some m.cls := findClass_of_methodNamed Bd.named
  have hnm := (name_of_methodNamed Bd.named Bd.method).1
  have X0 : Stand p l e ({ frames := 2, cells := 2, slots := 5, locals := 40 } : Room) s m #[(.int p1)] below meth c s₁ [] 0 0 := Stand.of_body Bd
  have e0 : s₁.heap = h0 := by rw [← hh, Bd.state]; rfl
  have N0 := Fr.nil n0
  show own_Go p.tables e below (own_Q s (fun v h L => ∃ bb : Addr, v = some (.ref bb) ∧ Fr n0 L ∧ Keep h0 h []) 2 5) (s₁.setTop (entryFrame m #[(.int p1)] 1))
  rw [show entryFrame m #[(.int p1)] 1 = mkF m 0 #[.val (.int p1)] [] from by first | (simp [entryFrame, mkF, argsToLocals, Value.category]; done) | rfl]
  show own_Go _ _ _ _ (s₁.setTop (mkF m 0 #[.val (.int p1)] []))
  obtain ⟨T1, X1, e1, st1⟩ := getS2 X0 hx hZ hown (host := "") (Or.inl (hw _ (List.mem_of_getElem? (i := 32) rfl))) Via.refl e0 PS (g := (mkF m 0 #[.val (.int p1)] [])) rfl (hb hby d5_0)
  refine own_by st1 ?_
  show own_Go _ _ _ _ (T1.setTop (mkF m 3 #[.val (.int p1)] [(.int cs)]))
  refine own_by (fun _ k => XS.ifNo X1.here hx rfl (hb hby d5_3) rfl ((if0 _ _).trans (feq Pcs).1) k) ?_
  refine own_by (fun _ k => XS.iloadN X1.here hx rfl (hb hby d5_6) rfl k) ?_
  show own_Go _ _ _ _ (T1.setTop (mkF m 7 #[.val (.int p1)] [(.int p1)]))
  refine own_callS X1 hx hZ hown (hw _ (List.mem_of_getElem? (i := 33) rfl)) (hw _ (List.mem_of_getElem? (i := 34) rfl)) (hw _ (List.mem_of_getElem? (i := 35) rfl)) (hw _ (List.mem_of_getElem? (i := 36) rfl)) (by decide) (rm6 l Z a0 hw [] p1 h0 n0 Z0 Pp) e1 (by rw [hml]; rfl) [(.int p1)] [] rfl (lenOf own_pd6 rfl) rfl 0 (Nat.le_of_eq rfl) (by decide) (by decide) (Nat.le_of_ble_eq_true rfl) (Nat.le_of_ble_eq_true rfl) (hb hby d5_7) ?_
  intro T2 Lc2 v2 X2 hQ2
  obtain ⟨rfl, N2q, e2⟩ := hQ2
  have N2 := Fr.app N0 N2q
  show own_Go _ _ _ _ (T2.setTop (mkF m 10 #[.val (.int p1)] [(.int (1 : Int32))]))
  refine own_by (fun _ k => XS.ifNo X2.here hx rfl (hb hby d5_10) rfl ((if0 _ _).trans (feq (by decide)).1) k) ?_
  show own_Go _ _ _ _ (T2.setTop (mkF m 13 #[.val (.int p1)] []))
  obtain ⟨T3, h3, X3, e3, E3, A3, D3, -, st3⟩ := newO X2 hx hZ hown (hw _ (List.mem_of_getElem? (i := 37) rfl)) (hw _ (List.mem_of_getElem? (i := 8) rfl)) (hw _ (List.mem_of_getElem? (i := 9) rfl)) e2 (g := (mkF m 13 #[.val (.int p1)] [])) rfl (hb hby d5_13) (by decide) (by decide)
  refine own_by st3 ?_
  show own_Go _ _ _ _ (T3.setTop (mkF m 16 #[.val (.int p1)] [.ref h0.size]))
  obtain ⟨b3, g3⟩ : ∃ z, z = h0.size := ⟨_, rfl⟩
  rw [← g3] at A3 D3
  refine own_gen g3.symm (fun z_ => T3.setTop (mkF m 16 #[.val (.int p1)] [.ref z_])) ?_
  have ge3 : n0 ≤ b3 := Nat.le_trans Z0 (Nat.le_of_eq g3.symm)
  have nw3 : h0.size ≤ b3 := Nat.le_trans (Keep.refl h0 []).1 (Nat.le_of_eq g3.symm)
  have f4 := PS.ext E3
  have f5 := (Keep.refl h0 []).ext E3
  have Z3 := Nat.le_trans Z0 E3.1
  have f6 : Fld Z h3 b3 "java/lang/String" "value" "[B" .null := D3 (Or.inr (hw _ (List.mem_of_getElem? (i := 23) rfl))) (ty := (.array .byte)) (by decide)
  have f7 : Fld Z h3 b3 "java/lang/String" "coder" "B" (.int (0 : Int32)) := D3 (Or.inr (hw _ (List.mem_of_getElem? (i := 24) rfl))) (ty := .byte) (by decide)
  show own_Go _ _ _ _ (T3.setTop (mkF m 16 #[.val (.int p1)] [(.ref b3)]))
  refine own_by (fun _ k => XS.dup X3.here hx rfl (hb hby d5_16) rfl rfl k) ?_
  refine own_by (fun _ k => XS.iloadN X3.here hx rfl (hb hby d5_17) rfl k) ?_
  show own_Go _ _ _ _ (T3.setTop (mkF m 18 #[.val (.int p1)] [(.int p1), (.ref b3), (.ref b3)]))
  refine own_callS X3 hx hZ hown (hw _ (List.mem_of_getElem? (i := 38) rfl)) (hw _ (List.mem_of_getElem? (i := 39) rfl)) (hw _ (List.mem_of_getElem? (i := 35) rfl)) (hw _ (List.mem_of_getElem? (i := 40) rfl)) (by decide) (rm7 l Z a0 hw [] p1 h3 n0 Z3) e3 (by rw [hml]; rfl) [(.int p1)] [(.ref b3), (.ref b3)] rfl (lenOf own_pd7 rfl) rfl 2 (Nat.le_of_eq rfl) (by decide) (by decide) (Nat.le_of_ble_eq_true rfl) (Nat.le_of_ble_eq_true rfl) (hb hby d5_18) ?_
  intro T8 Lc8 v8 X8 hQ8
  obtain ⟨h8, e8⟩ : ∃ h, T8.heap = h := ⟨_, rfl⟩
  rw [e8] at hQ8
  obtain ⟨bb8, rfl, N8q, K8⟩ := hQ8
  have N8 := Fr.app N2 N8q
  have f9 := own_sta_keep f4 K8 ns0
  have f10 := f5.trans K8 all0
  have f11 := A3.keep K8
  have f12 := f6.keep K8 nin0
  have f13 := f7.keep K8 nin0
  have Z8 := Nat.le_trans Z3 K8.1
  show own_Go _ _ _ _ (T8.setTop (mkF m 21 #[.val (.int p1)] [(.ref bb8), (.ref b3), (.ref b3)]))
  refine own_by (fun _ k => XS.iconst X8.here hx rfl (hb hby d5_21) k) ?_
  show own_Go _ _ _ _ (T8.setTop (mkF m 22 #[.val (.int p1)] [(.int (0 : Int32)), (.ref bb8), (.ref b3), (.ref b3)]))
  refine own_callI X8 hx hZ hown rfl (hw _ (List.mem_of_getElem? (i := 41) rfl)) (hw _ (List.mem_of_getElem? (i := 42) rfl)) (hw _ (List.mem_of_getElem? (i := 9) rfl)) (hw _ (List.mem_of_getElem? (i := 43) rfl)) (by decide) (rm8 l Z a0 hw [] b3 bb8 (0 : Int32) h8 n0 Z8 f11 f12 f13 ge3) e8 (by rw [hml]; rfl) b3 [(.ref bb8), (.int (0 : Int32))] [(.ref b3)] rfl (lenOf own_pd8 rfl) rfl 1 (Nat.le_of_eq rfl) (by decide) (by decide) (Nat.le_of_ble_eq_true rfl) (Nat.le_of_ble_eq_true rfl) (hb hby d5_22) ?_
  intro T14 Lc14 v14 X14 hQ14
  obtain ⟨h14, e14⟩ : ∃ h, T14.heap = h := ⟨_, rfl⟩
  rw [e14] at hQ14
  obtain ⟨rfl, N14q, K14⟩ := hQ14
  have N14 := Fr.app N8 N14q
  have f15 := own_sta_keep f9 K14 (nsS f11.nostat ns0)
  have f16 := f10.trans K14 (allS (P := fun x => x ∈ [] ∨ h0.size ≤ x) (Or.inr nw3) all0)
  have f17 := f11.keep K14
  have Z14 := Nat.le_trans Z8 K14.1
  show own_Go _ _ _ _ (T14.setTop (mkF m 25 #[.val (.int p1)] [(.ref b3)]))
  exact own_retA X14 hx Bd.notSynchronized e14 Bd.returns rfl rfl rfl (hb hby d5_25) (⟨_, rfl, N14, f16⟩) (by decide) (by decide)
set_option maxRecDepth 65536 in
set_option maxHeartbeats 40000000 in
theorem rm14_2 (l : Launch) (Z : State) (a0 : Array Value) (hw : ∀ d ∈ tables_1, d.before a0 Z = true) (ws : List Jvm.Cond) (a1 : Addr) (a2 : Addr) (f fz : Nat → Int32) (h0 : Heap) (n0 : Nat) (Z0 : n0 ≤ h0.size) (PA1 : own_AI Z h0 a1 .char 2 f) (PA2 : own_AI Z h0 a2 .byte 2 fz) (Pg2 : n0 ≤ a2) (Pne : a1 ≠ a2) (Pv0 : ¬ (255 : Int32) < f 0) (Pv1 : ¬ (255 : Int32) < f 1) :
    MetFree l (⟨"java/lang/StringUTF16", "compress", "([CI[BII)I"⟩ : MethodName) (head1 (Jvm.Cond.code (⟨"java/lang/StringUTF16", "compress", "([CI[BII)I"⟩ : MethodName) jdk_52_method_21_code 7 (some .int) :: ws) ({ frames := 0, cells := 0, slots := 0, locals := 0 } : Room)) (fun a U => a = #[(.ref a1), (.int (0 : Int32)), (.ref a2), (.int (0 : Int32)), (.int (2 : Int32))] ∧ Z.Warmed39 U.vm ∧ U.heap = h0) (fun _ _ _ _ _ => True) (fun _ U o U' => ∃ vv LL, o = .returned vv ∧ own_ap (fun v h L => v = some (.int 2) ∧ Fr n0 L ∧ Keep h0 h [a2] ∧ ∃ fy, own_AI Z h a2 .byte 2 fy) vv U'.heap LL ∧ FrameEnd U o U' LL 0 0) := by
  refine MetFree.of_bodySF (plainFor_of_name pn_14) hisR ?_
  intro p e s m args below meth c s₁ Bd hml0 hP hK
  obtain ⟨rfl, hZ, hh⟩ := hP
  have hx := Bd.exec
  have hby := Bd.bytes
  have hml : c.maxLocals = 7 := hml0
  have hown : s.vm.findClass "java/lang/StringUTF16" = some m.cls := findClass_of_methodNamed Bd.named
  have hnm := (name_of_methodNamed Bd.named Bd.method).1
  have X0 : Stand p l e ({ frames := 0, cells := 0, slots := 0, locals := 0 } : Room) s m #[(.ref a1), (.int (0 : Int32)), (.ref a2), (.int (0 : Int32)), (.int (2 : Int32))] below meth c s₁ [] 0 0 := Stand.of_body Bd
  have e0 : s₁.heap = h0 := by rw [← hh, Bd.state]; rfl
  have N0 := Fr.nil n0
  show own_Go p.tables e below (own_Q s (fun v h L => v = some (.int 2) ∧ Fr n0 L ∧ Keep h0 h [a2] ∧ ∃ fy, own_AI Z h a2 .byte 2 fy) 0 0) (s₁.setTop (entryFrame m #[(.ref a1), (.int (0 : Int32)), (.ref a2), (.int (0 : Int32)), (.int (2 : Int32))] 7))
  rw [show entryFrame m #[(.ref a1), (.int (0 : Int32)), (.ref a2), (.int (0 : Int32)), (.int (2 : Int32))] 7 = mkF m 0 #[.val (.ref a1), .val (.int (0 : Int32)), .val (.ref a2), .val (.int (0 : Int32)), .val (.int (2 : Int32)), .unset, .unset] [] from by first | (simp [entryFrame, mkF, argsToLocals, Value.category]; done) | rfl]
  show own_Go _ _ _ _ (s₁.setTop (mkF m 0 #[.val (.ref a1), .val (.int (0 : Int32)), .val (.ref a2), .val (.int (0 : Int32)), .val (.int (2 : Int32)), .unset, .unset] []))
  refine own_by (fun _ k => XS.iconst X0.here hx rfl (hb hby d14_0) k) ?_
  show own_Go _ _ _ _ (s₁.setTop (mkF m 1 #[.val (.ref a1), .val (.int (0 : Int32)), .val (.ref a2), .val (.int (0 : Int32)), .val (.int (2 : Int32)), .unset, .unset] [(.int (0 : Int32))]))
  refine own_by (fun _ k => XS.istore X0.here hx rfl (hb hby d14_1) rfl (l' := #[.val (.ref a1), .val (.int (0 : Int32)), .val (.ref a2), .val (.int (0 : Int32)), .val (.int (2 : Int32)), .val (.int (0 : Int32)), .unset]) rfl k) ?_
  refine own_by (fun _ k => XS.iload X0.here hx rfl (hb hby d14_3) rfl k) ?_
  refine own_by (fun _ k => XS.iload X0.here hx rfl (hb hby d14_5) rfl k) ?_
  show own_Go _ _ _ _ (s₁.setTop (mkF m 7 #[.val (.ref a1), .val (.int (0 : Int32)), .val (.ref a2), .val (.int (0 : Int32)), .val (.int (2 : Int32)), .val (.int (0 : Int32)), .unset] [(.int (2 : Int32)), (.int (0 : Int32))]))
  refine own_by (fun _ k => XS.icmpNo X0.here hx rfl (hb hby d14_7) rfl (tlt (by decide)).2.1 k) ?_
  refine own_by (fun _ k => XS.aloadN X0.here hx rfl (hb hby d14_10) rfl rfl k) ?_
  refine own_by (fun _ k => XS.iloadN X0.here hx rfl (hb hby d14_11) rfl k) ?_
  show own_Go _ _ _ _ (s₁.setTop (mkF m 12 #[.val (.ref a1), .val (.int (0 : Int32)), .val (.ref a2), .val (.int (0 : Int32)), .val (.int (2 : Int32)), .val (.int (0 : Int32)), .unset] [(.int (0 : Int32)), (.ref a1)]))
  refine own_by (fun _ k => own_cal X0 hx hZ e0 PA1 0 (by decide) (by decide) (hb hby d14_12) k) ?_
  show own_Go _ _ _ _ (s₁.setTop (mkF m 13 #[.val (.ref a1), .val (.int (0 : Int32)), .val (.ref a2), .val (.int (0 : Int32)), .val (.int (2 : Int32)), .val (.int (0 : Int32)), .unset] [(.int (f 0))]))
  obtain ⟨v6_1, hv6_1⟩ : ∃ z_ : Int32, (f 0) = z_ := ⟨_, rfl⟩
  refine own_gen hv6_1 (fun z_ => s₁.setTop (mkF m 13 #[.val (.ref a1), .val (.int (0 : Int32)), .val (.ref a2), .val (.int (0 : Int32)), .val (.int (2 : Int32)), .val (.int (0 : Int32)), .unset] [(.int z_)])) ?_
  refine own_by (fun _ k => XS.istore X0.here hx rfl (hb hby d14_13) rfl (l' := #[.val (.ref a1), .val (.int (0 : Int32)), .val (.ref a2), .val (.int (0 : Int32)), .val (.int (2 : Int32)), .val (.int (0 : Int32)), .val (.int v6_1)]) rfl k) ?_
  refine own_by (fun _ k => XS.iload X0.here hx rfl (hb hby d14_15) rfl k) ?_
  refine own_by (fun _ k => XS.sipush X0.here hx rfl (hb hby d14_17) k) ?_
  show own_Go _ _ _ _ (s₁.setTop (mkF m 20 #[.val (.ref a1), .val (.int (0 : Int32)), .val (.ref a2), .val (.int (0 : Int32)), .val (.int (2 : Int32)), .val (.int (0 : Int32)), .val (.int v6_1)] [(.int (255 : Int32)), (.int v6_1)]))
  refine own_by (fun _ k => XS.icmpYes X0.here hx rfl (pc0 := 20) (pc' := 26) rfl (hb hby d14_20) rfl (flt (by rw [← hv6_1]; exact Pv0)).2.2.2 (by decide) (by decide) k) ?_
  refine own_by (fun _ k => XS.aloadN X0.here hx rfl (hb hby d14_26) rfl rfl k) ?_
  refine own_by (fun _ k => XS.iloadN X0.here hx rfl (hb hby d14_27) rfl k) ?_
  show own_Go _ _ _ _ (s₁.setTop (mkF m 28 #[.val (.ref a1), .val (.int (0 : Int32)), .val (.ref a2), .val (.int (0 : Int32)), .val (.int (2 : Int32)), .val (.int (0 : Int32)), .val (.int v6_1)] [(.int (0 : Int32)), (.ref a2)]))
  refine own_by (fun _ k => XS.iload X0.here hx rfl (hb hby d14_28) rfl k) ?_
  show own_Go _ _ _ _ (s₁.setTop (mkF m 30 #[.val (.ref a1), .val (.int (0 : Int32)), .val (.ref a2), .val (.int (0 : Int32)), .val (.int (2 : Int32)), .val (.int (0 : Int32)), .val (.int v6_1)] [(.int v6_1), (.int (0 : Int32)), (.ref a2)]))
  refine own_by (fun _ k => XS.i2b X0.here hx rfl (hb hby d14_30) rfl k) ?_
  show own_Go _ _ _ _ (s₁.setTop (mkF m 31 #[.val (.ref a1), .val (.int (0 : Int32)), .val (.ref a2), .val (.int (0 : Int32)), .val (.int (2 : Int32)), .val (.int (0 : Int32)), .val (.int v6_1)] [(.int (v6_1.toInt8.toInt32)), (.int (0 : Int32)), (.ref a2)]))
  refine own_bas X0 hx hZ e0 PA2 0 (by decide) (by decide) (hb hby d14_31) ?_
  intro T2 h2 X2 e2 W2 A2
  have f3 := PA1.other W2 Pne
  have f4 := (Keep.refl h0 [a2]).wr W2 (Or.inl (List.mem_of_getElem? (i := 0) rfl))
  have N2 := Fr.snoc X2 N0 Pg2
  have Z2 := own_size_wr W2 Z0
  obtain ⟨fn2, hfn2⟩ : ∃ gf_ : Nat → Int32, gf_ = own_upd fz 0 (nar .byte (v6_1.toInt8.toInt32)) := ⟨_, rfl⟩
  rw [← hfn2] at A2
  show own_Go _ _ _ _ (T2.setTop (mkF m 32 #[.val (.ref a1), .val (.int (0 : Int32)), .val (.ref a2), .val (.int (0 : Int32)), .val (.int (2 : Int32)), .val (.int (0 : Int32)), .val (.int v6_1)] []))
  refine own_by (fun _ k => XS.iinc X2.here hx rfl (hb hby d14_32) rfl (l' := #[.val (.ref a1), .val (.int ((0 : Int32) + (1 : Int32))), .val (.ref a2), .val (.int (0 : Int32)), .val (.int (2 : Int32)), .val (.int (0 : Int32)), .val (.int v6_1)]) rfl k) ?_
  show own_Go _ _ _ _ (T2.setTop (mkF m 35 #[.val (.ref a1), .val (.int ((0 : Int32) + (1 : Int32))), .val (.ref a2), .val (.int (0 : Int32)), .val (.int (2 : Int32)), .val (.int (0 : Int32)), .val (.int v6_1)] []))
  rw [(by decide : ((0 : Int32) + (1 : Int32)) = (1 : Int32))]
  show own_Go _ _ _ _ (T2.setTop (mkF m 35 #[.val (.ref a1), .val (.int (1 : Int32)), .val (.ref a2), .val (.int (0 : Int32)), .val (.int (2 : Int32)), .val (.int (0 : Int32)), .val (.int v6_1)] []))
  refine own_by (fun _ k => XS.iinc X2.here hx rfl (hb hby d14_35) rfl (l' := #[.val (.ref a1), .val (.int (1 : Int32)), .val (.ref a2), .val (.int ((0 : Int32) + (1 : Int32))), .val (.int (2 : Int32)), .val (.int (0 : Int32)), .val (.int v6_1)]) rfl k) ?_
  show own_Go _ _ _ _ (T2.setTop (mkF m 38 #[.val (.ref a1), .val (.int (1 : Int32)), .val (.ref a2), .val (.int ((0 : Int32) + (1 : Int32))), .val (.int (2 : Int32)), .val (.int (0 : Int32)), .val (.int v6_1)] []))
  rw [(by decide : ((0 : Int32) + (1 : Int32)) = (1 : Int32))]
  show own_Go _ _ _ _ (T2.setTop (mkF m 38 #[.val (.ref a1), .val (.int (1 : Int32)), .val (.ref a2), .val (.int (1 : Int32)), .val (.int (2 : Int32)), .val (.int (0 : Int32)), .val (.int v6_1)] []))
  refine own_by (fun _ k => XS.iinc X2.here hx rfl (hb hby d14_38) rfl (l' := #[.val (.ref a1), .val (.int (1 : Int32)), .val (.ref a2), .val (.int (1 : Int32)), .val (.int (2 : Int32)), .val (.int ((0 : Int32) + (1 : Int32))), .val (.int v6_1)]) rfl k) ?_
  show own_Go _ _ _ _ (T2.setTop (mkF m 41 #[.val (.ref a1), .val (.int (1 : Int32)), .val (.ref a2), .val (.int (1 : Int32)), .val (.int (2 : Int32)), .val (.int ((0 : Int32) + (1 : Int32))), .val (.int v6_1)] []))
  rw [(by decide : ((0 : Int32) + (1 : Int32)) = (1 : Int32))]
  show own_Go _ _ _ _ (T2.setTop (mkF m 41 #[.val (.ref a1), .val (.int (1 : Int32)), .val (.ref a2), .val (.int (1 : Int32)), .val (.int (2 : Int32)), .val (.int (1 : Int32)), .val (.int v6_1)] []))
  refine own_by (fun _ k => XS.goto X2.here hx rfl (pc0 := 41) (pc' := 3) rfl (hb hby d14_41) (by decide) (by decide) k) ?_
  refine own_by (fun _ k => XS.iload X2.here hx rfl (hb hby d14_3) rfl k) ?_
  refine own_by (fun _ k => XS.iload X2.here hx rfl (hb hby d14_5) rfl k) ?_
  show own_Go _ _ _ _ (T2.setTop (mkF m 7 #[.val (.ref a1), .val (.int (1 : Int32)), .val (.ref a2), .val (.int (1 : Int32)), .val (.int (2 : Int32)), .val (.int (1 : Int32)), .val (.int v6_1)] [(.int (2 : Int32)), (.int (1 : Int32))]))
  refine own_by (fun _ k => XS.icmpNo X2.here hx rfl (hb hby d14_7) rfl (tlt (by decide)).2.1 k) ?_
  refine own_by (fun _ k => XS.aloadN X2.here hx rfl (hb hby d14_10) rfl rfl k) ?_
  refine own_by (fun _ k => XS.iloadN X2.here hx rfl (hb hby d14_11) rfl k) ?_
  show own_Go _ _ _ _ (T2.setTop (mkF m 12 #[.val (.ref a1), .val (.int (1 : Int32)), .val (.ref a2), .val (.int (1 : Int32)), .val (.int (2 : Int32)), .val (.int (1 : Int32)), .val (.int v6_1)] [(.int (1 : Int32)), (.ref a1)]))
  refine own_by (fun _ k => own_cal X2 hx hZ e2 f3 1 (by decide) (by decide) (hb hby d14_12) k) ?_
  show own_Go _ _ _ _ (T2.setTop (mkF m 13 #[.val (.ref a1), .val (.int (1 : Int32)), .val (.ref a2), .val (.int (1 : Int32)), .val (.int (2 : Int32)), .val (.int (1 : Int32)), .val (.int v6_1)] [(.int (f 1))]))
  obtain ⟨v6_5, hv6_5⟩ : ∃ z_ : Int32, (f 1) = z_ := ⟨_, rfl⟩
  refine own_gen hv6_5 (fun z_ => T2.setTop (mkF m 13 #[.val (.ref a1), .val (.int (1 : Int32)), .val (.ref a2), .val (.int (1 : Int32)), .val (.int (2 : Int32)), .val (.int (1 : Int32)), .val (.int v6_1)] [(.int z_)])) ?_
  refine own_by (fun _ k => XS.istore X2.here hx rfl (hb hby d14_13) rfl (l' := #[.val (.ref a1), .val (.int (1 : Int32)), .val (.ref a2), .val (.int (1 : Int32)), .val (.int (2 : Int32)), .val (.int (1 : Int32)), .val (.int v6_5)]) rfl k) ?_
  refine own_by (fun _ k => XS.iload X2.here hx rfl (hb hby d14_15) rfl k) ?_
  refine own_by (fun _ k => XS.sipush X2.here hx rfl (hb hby d14_17) k) ?_
  show own_Go _ _ _ _ (T2.setTop (mkF m 20 #[.val (.ref a1), .val (.int (1 : Int32)), .val (.ref a2), .val (.int (1 : Int32)), .val (.int (2 : Int32)), .val (.int (1 : Int32)), .val (.int v6_5)] [(.int (255 : Int32)), (.int v6_5)]))
  refine own_by (fun _ k => XS.icmpYes X2.here hx rfl (pc0 := 20) (pc' := 26) rfl (hb hby d14_20) rfl (flt (by rw [← hv6_5]; exact Pv1)).2.2.2 (by decide) (by decide) k) ?_
  refine own_by (fun _ k => XS.aloadN X2.here hx rfl (hb hby d14_26) rfl rfl k) ?_
  refine own_by (fun _ k => XS.iloadN X2.here hx rfl (hb hby d14_27) rfl k) ?_
  show own_Go _ _ _ _ (T2.setTop (mkF m 28 #[.val (.ref a1), .val (.int (1 : Int32)), .val (.ref a2), .val (.int (1 : Int32)), .val (.int (2 : Int32)), .val (.int (1 : Int32)), .val (.int v6_5)] [(.int (1 : Int32)), (.ref a2)]))
  refine own_by (fun _ k => XS.iload X2.here hx rfl (hb hby d14_28) rfl k) ?_
  show own_Go _ _ _ _ (T2.setTop (mkF m 30 #[.val (.ref a1), .val (.int (1 : Int32)), .val (.ref a2), .val (.int (1 : Int32)), .val (.int (2 : Int32)), .val (.int (1 : Int32)), .val (.int v6_5)] [(.int v6_5), (.int (1 : Int32)), (.ref a2)]))
  refine own_by (fun _ k => XS.i2b X2.here hx rfl (hb hby d14_30) rfl k) ?_
  show own_Go _ _ _ _ (T2.setTop (mkF m 31 #[.val (.ref a1), .val (.int (1 : Int32)), .val (.ref a2), .val (.int (1 : Int32)), .val (.int (2 : Int32)), .val (.int (1 : Int32)), .val (.int v6_5)] [(.int (v6_5.toInt8.toInt32)), (.int (1 : Int32)), (.ref a2)]))
  refine own_bas X2 hx hZ e2 A2 1 (by decide) (by decide) (hb hby d14_31) ?_
  intro T6 h6 X6 e6 W6 A6
  have f7 := f3.other W6 Pne
  have f8 := f4.wr W6 (Or.inl (List.mem_of_getElem? (i := 0) rfl))
  have N6 := Fr.snoc X6 N2 Pg2
  have Z6 := own_size_wr W6 Z2
  obtain ⟨fn6, hfn6⟩ : ∃ gf_ : Nat → Int32, gf_ = own_upd fn2 1 (nar .byte (v6_5.toInt8.toInt32)) := ⟨_, rfl⟩
  rw [← hfn6] at A6
  show own_Go _ _ _ _ (T6.setTop (mkF m 32 #[.val (.ref a1), .val (.int (1 : Int32)), .val (.ref a2), .val (.int (1 : Int32)), .val (.int (2 : Int32)), .val (.int (1 : Int32)), .val (.int v6_5)] []))
  refine own_by (fun _ k => XS.iinc X6.here hx rfl (hb hby d14_32) rfl (l' := #[.val (.ref a1), .val (.int ((1 : Int32) + (1 : Int32))), .val (.ref a2), .val (.int (1 : Int32)), .val (.int (2 : Int32)), .val (.int (1 : Int32)), .val (.int v6_5)]) rfl k) ?_
  show own_Go _ _ _ _ (T6.setTop (mkF m 35 #[.val (.ref a1), .val (.int ((1 : Int32) + (1 : Int32))), .val (.ref a2), .val (.int (1 : Int32)), .val (.int (2 : Int32)), .val (.int (1 : Int32)), .val (.int v6_5)] []))
  rw [(by decide : ((1 : Int32) + (1 : Int32)) = (2 : Int32))]
  show own_Go _ _ _ _ (T6.setTop (mkF m 35 #[.val (.ref a1), .val (.int (2 : Int32)), .val (.ref a2), .val (.int (1 : Int32)), .val (.int (2 : Int32)), .val (.int (1 : Int32)), .val (.int v6_5)] []))
  refine own_by (fun _ k => XS.iinc X6.here hx rfl (hb hby d14_35) rfl (l' := #[.val (.ref a1), .val (.int (2 : Int32)), .val (.ref a2), .val (.int ((1 : Int32) + (1 : Int32))), .val (.int (2 : Int32)), .val (.int (1 : Int32)), .val (.int v6_5)]) rfl k) ?_
  show own_Go _ _ _ _ (T6.setTop (mkF m 38 #[.val (.ref a1), .val (.int (2 : Int32)), .val (.ref a2), .val (.int ((1 : Int32) + (1 : Int32))), .val (.int (2 : Int32)), .val (.int (1 : Int32)), .val (.int v6_5)] []))
  rw [(by decide : ((1 : Int32) + (1 : Int32)) = (2 : Int32))]
  show own_Go _ _ _ _ (T6.setTop (mkF m 38 #[.val (.ref a1), .val (.int (2 : Int32)), .val (.ref a2), .val (.int (2 : Int32)), .val (.int (2 : Int32)), .val (.int (1 : Int32)), .val (.int v6_5)] []))
  refine own_by (fun _ k => XS.iinc X6.here hx rfl (hb hby d14_38) rfl (l' := #[.val (.ref a1), .val (.int (2 : Int32)), .val (.ref a2), .val (.int (2 : Int32)), .val (.int (2 : Int32)), .val (.int ((1 : Int32) + (1 : Int32))), .val (.int v6_5)]) rfl k) ?_
  show own_Go _ _ _ _ (T6.setTop (mkF m 41 #[.val (.ref a1), .val (.int (2 : Int32)), .val (.ref a2), .val (.int (2 : Int32)), .val (.int (2 : Int32)), .val (.int ((1 : Int32) + (1 : Int32))), .val (.int v6_5)] []))
  rw [(by decide : ((1 : Int32) + (1 : Int32)) = (2 : Int32))]
  show own_Go _ _ _ _ (T6.setTop (mkF m 41 #[.val (.ref a1), .val (.int (2 : Int32)), .val (.ref a2), .val (.int (2 : Int32)), .val (.int (2 : Int32)), .val (.int (2 : Int32)), .val (.int v6_5)] []))
  refine own_by (fun _ k => XS.goto X6.here hx rfl (pc0 := 41) (pc' := 3) rfl (hb hby d14_41) (by decide) (by decide) k) ?_
  refine own_by (fun _ k => XS.iload X6.here hx rfl (hb hby d14_3) rfl k) ?_
  refine own_by (fun _ k => XS.iload X6.here hx rfl (hb hby d14_5) rfl k) ?_
  show own_Go _ _ _ _ (T6.setTop (mkF m 7 #[.val (.ref a1), .val (.int (2 : Int32)), .val (.ref a2), .val (.int (2 : Int32)), .val (.int (2 : Int32)), .val (.int (2 : Int32)), .val (.int v6_5)] [(.int (2 : Int32)), (.int (2 : Int32))]))
  refine own_by (fun _ k => XS.icmpYes X6.here hx rfl (pc0 := 7) (pc' := 44) rfl (hb hby d14_7) rfl (flt (by decide)).2.1 (by decide) (by decide) k) ?_
  refine own_by (fun _ k => XS.iload X6.here hx rfl (hb hby d14_44) rfl k) ?_
  show own_Go _ _ _ _ (T6.setTop (mkF m 46 #[.val (.ref a1), .val (.int (2 : Int32)), .val (.ref a2), .val (.int (2 : Int32)), .val (.int (2 : Int32)), .val (.int (2 : Int32)), .val (.int v6_5)] [(.int (2 : Int32))]))
  exact own_retI X6 hx Bd.notSynchronized e6 Bd.returns (hb hby d14_46) (⟨rfl, N6, f8, _, A6⟩) (by decide) (by decide)
set_option maxRecDepth 65536 in
set_option maxHeartbeats 40000000 in
theorem rm13_2 (l : Launch) (Z : State) (a0 : Array Value) (hw : ∀ d ∈ tables_1, d.before a0 Z = true) (ws : List Jvm.Cond) (a1 : Addr) (f : Nat → Int32) (h0 : Heap) (n0 : Nat) (Z0 : n0 ≤ h0.size) (PA1 : own_AI Z h0 a1 .char 2 f) (Pv0 : ¬ (255 : Int32) < f 0) (Pv1 : ¬ (255 : Int32) < f 1) :
    MetFree l (⟨"java/lang/StringUTF16", "compress", "([CII)[B"⟩ : MethodName) (head1 (Jvm.Cond.code (⟨"java/lang/StringUTF16", "compress", "([CII)[B"⟩ : MethodName) jdk_52_method_16_code 6 (some (.array .byte)) :: ws) ({ frames := 1, cells := 1, slots := 2, locals := 18 } : Room)) (fun a U => a = #[(.ref a1), (.int (0 : Int32)), (.int (2 : Int32))] ∧ Z.Warmed39 U.vm ∧ U.heap = h0) (fun _ _ _ _ _ => True) (fun _ U o U' => ∃ vv LL, o = .returned vv ∧ own_ap (fun v h L => ∃ bb : Addr, v = some (.ref bb) ∧ Fr n0 L ∧ Keep h0 h [] ∧ h0.size ≤ bb ∧ ∃ fy, own_AI Z h bb .byte 2 fy) vv U'.heap LL ∧ FrameEnd U o U' LL 1 2) := by
  refine MetFree.of_bodySF (plainFor_of_name pn_13) hisR ?_
  intro p e s m args below meth c s₁ Bd hml0 hP hK
  obtain ⟨rfl, hZ, hh⟩ := hP
  have hx := Bd.exec
  have hby := Bd.bytes
  have hml : c.maxLocals = 6 := hml0
  have hown : s.vm.findClass "java/lang/StringUTF16" = some m.cls := findClass_of_methodNamed Bd.named
  have hnm := (name_of_methodNamed Bd.named Bd.method).1
  have X0 : Stand p l e ({ frames := 1, cells := 1, slots := 2, locals := 18 } : Room) s m #[(.ref a1), (.int (0 : Int32)), (.int (2 : Int32))] below meth c s₁ [] 0 0 := Stand.of_body Bd
  have e0 : s₁.heap = h0 := by rw [← hh, Bd.state]; rfl
  have N0 := Fr.nil n0
  show own_Go p.tables e below (own_Q s (fun v h L => ∃ bb : Addr, v = some (.ref bb) ∧ Fr n0 L ∧ Keep h0 h [] ∧ h0.size ≤ bb ∧ ∃ fy, own_AI Z h bb .byte 2 fy) 1 2) (s₁.setTop (entryFrame m #[(.ref a1), (.int (0 : Int32)), (.int (2 : Int32))] 6))
  rw [show entryFrame m #[(.ref a1), (.int (0 : Int32)), (.int (2 : Int32))] 6 = mkF m 0 #[.val (.ref a1), .val (.int (0 : Int32)), .val (.int (2 : Int32)), .unset, .unset, .unset] [] from by first | (simp [entryFrame, mkF, argsToLocals, Value.category]; done) | rfl]
  show own_Go _ _ _ _ (s₁.setTop (mkF m 0 #[.val (.ref a1), .val (.int (0 : Int32)), .val (.int (2 : Int32)), .unset, .unset, .unset] []))
  refine own_by (fun _ k => XS.iloadN X0.here hx rfl (hb hby d13_0) rfl k) ?_
  show own_Go _ _ _ _ (s₁.setTop (mkF m 1 #[.val (.ref a1), .val (.int (0 : Int32)), .val (.int (2 : Int32)), .unset, .unset, .unset] [(.int (2 : Int32))]))
  refine own_newP X0 hx hZ (hw _ (List.mem_of_getElem? (i := 22) rfl)) e0 2 (by decide) 2 (by decide) (by decide) (by decide) (by decide) (hb hby d13_1) ?_
  intro T1 h1 X1 e1 E1 A1
  show own_Go _ _ _ _ (T1.setTop (mkF m 3 #[.val (.ref a1), .val (.int (0 : Int32)), .val (.int (2 : Int32)), .unset, .unset, .unset] [.ref h0.size]))
  obtain ⟨b1, g1⟩ : ∃ z, z = h0.size := ⟨_, rfl⟩
  rw [← g1] at A1
  refine own_gen g1.symm (fun z_ => T1.setTop (mkF m 3 #[.val (.ref a1), .val (.int (0 : Int32)), .val (.int (2 : Int32)), .unset, .unset, .unset] [.ref z_])) ?_
  have ne2 : a1 ≠ b1 := Nat.ne_of_lt (Nat.lt_of_lt_of_le PA1.lt (Nat.le_of_eq g1.symm))
  have ge1 : n0 ≤ b1 := Nat.le_trans Z0 (Nat.le_of_eq g1.symm)
  have nw1 : h0.size ≤ b1 := Nat.le_trans (Keep.refl h0 []).1 (Nat.le_of_eq g1.symm)
  have f3 := PA1.ext E1
  have f4 := (Keep.refl h0 []).ext E1
  have Z1 := Nat.le_trans Z0 E1.1
  have f5 : own_AI Z h1 b1 .byte 2 (fun _ => 0) := A1
  show own_Go _ _ _ _ (T1.setTop (mkF m 3 #[.val (.ref a1), .val (.int (0 : Int32)), .val (.int (2 : Int32)), .unset, .unset, .unset] [(.ref b1)]))
  refine own_by (fun _ k => XS.astoreN X1.here hx rfl (hb hby d13_3) rfl rfl (l' := #[.val (.ref a1), .val (.int (0 : Int32)), .val (.int (2 : Int32)), .val (.ref b1), .unset, .unset]) rfl k) ?_
  refine own_by (fun _ k => XS.aloadN X1.here hx rfl (hb hby d13_4) rfl rfl k) ?_
  refine own_by (fun _ k => XS.iloadN X1.here hx rfl (hb hby d13_5) rfl k) ?_
  show own_Go _ _ _ _ (T1.setTop (mkF m 6 #[.val (.ref a1), .val (.int (0 : Int32)), .val (.int (2 : Int32)), .val (.ref b1), .unset, .unset] [(.int (0 : Int32)), (.ref a1)]))
  refine own_by (fun _ k => XS.aloadN X1.here hx rfl (hb hby d13_6) rfl rfl k) ?_
  refine own_by (fun _ k => XS.iconst X1.here hx rfl (hb hby d13_7) k) ?_
  refine own_by (fun _ k => XS.iloadN X1.here hx rfl (hb hby d13_8) rfl k) ?_
  show own_Go _ _ _ _ (T1.setTop (mkF m 9 #[.val (.ref a1), .val (.int (0 : Int32)), .val (.int (2 : Int32)), .val (.ref b1), .unset, .unset] [(.int (2 : Int32)), (.int (0 : Int32)), (.ref b1), (.int (0 : Int32)), (.ref a1)]))
  refine own_callS X1 hx hZ hown (hw _ (List.mem_of_getElem? (i := 82) rfl)) (hw _ (List.mem_of_getElem? (i := 83) rfl)) (hw _ (List.mem_of_getElem? (i := 80) rfl)) (hw _ (List.mem_of_getElem? (i := 84) rfl)) (by decide) (rm14_2 l Z a0 hw [] a1 b1 f (fun _ => 0) h1 n0 Z1 f3 f5 ge1 ne2 Pv0 Pv1) e1 (by rw [hml]; rfl) [(.ref a1), (.int (0 : Int32)), (.ref b1), (.int (0 : Int32)), (.int (2 : Int32))] [] rfl (lenOf own_pd13 rfl) rfl 0 (Nat.le_of_eq rfl) (by decide) (by decide) (Nat.le_of_ble_eq_true rfl) (Nat.le_of_ble_eq_true rfl) (hb hby d13_9) ?_
  intro T6 Lc6 v6 X6 hQ6
  obtain ⟨h6, e6⟩ : ∃ h, T6.heap = h := ⟨_, rfl⟩
  rw [e6] at hQ6
  obtain ⟨rfl, N6q, K6, fz6, AB6⟩ := hQ6
  have N6 := Fr.app N0 N6q
  have f7 := f3.keep K6 (ninS ne2 nin0)
  have f8 := f4.trans K6 (allS (P := fun x => x ∈ [] ∨ h0.size ≤ x) (Or.inr nw1) all0)
  have Z6 := Nat.le_trans Z1 K6.1
  show own_Go _ _ _ _ (T6.setTop (mkF m 12 #[.val (.ref a1), .val (.int (0 : Int32)), .val (.int (2 : Int32)), .val (.ref b1), .unset, .unset] [(.int (2 : Int32))]))
  refine own_by (fun _ k => XS.istore X6.here hx rfl (hb hby d13_12) rfl (l' := #[.val (.ref a1), .val (.int (0 : Int32)), .val (.int (2 : Int32)), .val (.ref b1), .val (.int (2 : Int32)), .unset]) rfl k) ?_
  refine own_by (fun _ k => XS.iload X6.here hx rfl (hb hby d13_14) rfl k) ?_
  refine own_by (fun _ k => XS.iloadN X6.here hx rfl (hb hby d13_16) rfl k) ?_
  show own_Go _ _ _ _ (T6.setTop (mkF m 17 #[.val (.ref a1), .val (.int (0 : Int32)), .val (.int (2 : Int32)), .val (.ref b1), .val (.int (2 : Int32)), .unset] [(.int (2 : Int32)), (.int (2 : Int32))]))
  refine own_by (fun _ k => XS.icmpYes X6.here hx rfl (pc0 := 17) (pc' := 57) rfl (hb hby d13_17) rfl (teq (by decide)).1 (by decide) (by decide) k) ?_
  refine own_by (fun _ k => XS.aloadN X6.here hx rfl (hb hby d13_57) rfl rfl k) ?_
  show own_Go _ _ _ _ (T6.setTop (mkF m 58 #[.val (.ref a1), .val (.int (0 : Int32)), .val (.int (2 : Int32)), .val (.ref b1), .val (.int (2 : Int32)), .unset] [(.ref b1)]))
  exact own_retA X6 hx Bd.notSynchronized e6 Bd.returns rfl rfl rfl (hb hby d13_58) (⟨_, rfl, N6, f8, nw1, _, AB6⟩) (by decide) (by decide)
set_option maxRecDepth 65536 in
set_option maxHeartbeats 40000000 in
theorem rm15_2 (l : Launch) (Z : State) (a0 : Array Value) (hw : ∀ d ∈ tables_1, d.before a0 Z = true) (ws : List Jvm.Cond) (a1 : Addr) (f : Nat → Int32) (h0 : Heap) (n0 : Nat) (Z0 : n0 ≤ h0.size) (PA1 : own_AI Z h0 a1 .byte 2 f) :
    MetFree l (⟨"java/lang/StringUTF16", "coderFromArrayLen", "([BI)B"⟩ : MethodName) (head1 (Jvm.Cond.code (⟨"java/lang/StringUTF16", "coderFromArrayLen", "([BI)B"⟩ : MethodName) jdk_52_method_15_code 2 (some .byte) :: ws) ({ frames := 0, cells := 0, slots := 0, locals := 0 } : Room)) (fun a U => a = #[(.ref a1), (.int (2 : Int32))] ∧ Z.Warmed39 U.vm ∧ U.heap = h0) (fun _ _ _ _ _ => True) (fun _ U o U' => ∃ vv LL, o = .returned vv ∧ own_ap (fun v h L => v = some (.int 0) ∧ Fr n0 L ∧ h = h0) vv U'.heap LL ∧ FrameEnd U o U' LL 0 0) := by
  refine MetFree.of_bodySF (plainFor_of_name pn_15) hisR ?_
  intro p e s m args below meth c s₁ Bd hml0 hP hK
  obtain ⟨rfl, hZ, hh⟩ := hP
  have hx := Bd.exec
  have hby := Bd.bytes
  have hml : c.maxLocals = 2 := hml0
  have hown : s.vm.findClass "java/lang/StringUTF16" = some m.cls := findClass_of_methodNamed Bd.named
  have hnm := (name_of_methodNamed Bd.named Bd.method).1
  have X0 : Stand p l e ({ frames := 0, cells := 0, slots := 0, locals := 0 } : Room) s m #[(.ref a1), (.int (2 : Int32))] below meth c s₁ [] 0 0 := Stand.of_body Bd
  have e0 : s₁.heap = h0 := by rw [← hh, Bd.state]; rfl
  have N0 := Fr.nil n0
  show own_Go p.tables e below (own_Q s (fun v h L => v = some (.int 0) ∧ Fr n0 L ∧ h = h0) 0 0) (s₁.setTop (entryFrame m #[(.ref a1), (.int (2 : Int32))] 2))
  rw [show entryFrame m #[(.ref a1), (.int (2 : Int32))] 2 = mkF m 0 #[.val (.ref a1), .val (.int (2 : Int32))] [] from by first | (simp [entryFrame, mkF, argsToLocals, Value.category]; done) | rfl]
  show own_Go _ _ _ _ (s₁.setTop (mkF m 0 #[.val (.ref a1), .val (.int (2 : Int32))] []))
  refine own_by (fun _ k => XS.iloadN X0.here hx rfl (hb hby d15_0) rfl k) ?_
  refine own_by (fun _ k => XS.aloadN X0.here hx rfl (hb hby d15_1) rfl rfl k) ?_
  show own_Go _ _ _ _ (s₁.setTop (mkF m 2 #[.val (.ref a1), .val (.int (2 : Int32))] [(.ref a1), (.int (2 : Int32))]))
  refine own_by (fun _ k => own_len X0 hx hZ e0 PA1 (2 : Int32) (by decide) (hb hby d15_2) k) ?_
  show own_Go _ _ _ _ (s₁.setTop (mkF m 3 #[.val (.ref a1), .val (.int (2 : Int32))] [(.int (2 : Int32)), (.int (2 : Int32))]))
  refine own_by (fun _ k => XS.isub X0.here hx rfl (hb hby d15_3) rfl k) ?_
  show own_Go _ _ _ _ (s₁.setTop (mkF m 4 #[.val (.ref a1), .val (.int (2 : Int32))] [(.int ((2 : Int32) - (2 : Int32)))]))
  rw [(by decide : ((2 : Int32) - (2 : Int32)) = (0 : Int32))]
  refine own_by (fun _ k => XS.bipush X0.here hx rfl (hb hby d15_4) k) ?_
  show own_Go _ _ _ _ (s₁.setTop (mkF m 6 #[.val (.ref a1), .val (.int (2 : Int32))] [(.int (31 : Int32)), (.int (0 : Int32))]))
  refine own_by (fun _ k => XS.iushr X0.here hx rfl (hb hby d15_6) rfl k) ?_
  show own_Go _ _ _ _ (s₁.setTop (mkF m 7 #[.val (.ref a1), .val (.int (2 : Int32))] [(.int (((0 : Int32).toUInt32 >>> ((31 : Int32) &&& 31).toUInt32).toInt32))]))
  rw [(by decide : (((0 : Int32).toUInt32 >>> ((31 : Int32) &&& 31).toUInt32).toInt32) = (0 : Int32))]
  show own_Go _ _ _ _ (s₁.setTop (mkF m 7 #[.val (.ref a1), .val (.int (2 : Int32))] [(.int (0 : Int32))]))
  refine own_by (fun _ k => XS.i2b X0.here hx rfl (hb hby d15_7) rfl k) ?_
  show own_Go _ _ _ _ (s₁.setTop (mkF m 8 #[.val (.ref a1), .val (.int (2 : Int32))] [(.int ((0 : Int32).toInt8.toInt32))]))
  rw [(by decide : ((0 : Int32).toInt8.toInt32) = (0 : Int32))]
  show own_Go _ _ _ _ (s₁.setTop (mkF m 8 #[.val (.ref a1), .val (.int (2 : Int32))] [(.int (0 : Int32))]))
  exact own_retN X0 hx Bd.notSynchronized e0 Bd.returns (by simp) (hb hby d15_8) (⟨rfl, N0, rfl⟩) (by decide) (by decide)
set_option maxRecDepth 65536 in
set_option maxHeartbeats 40000000 in
theorem rm3_2 (l : Launch) (Z : State) (a0 : Array Value) (hw : ∀ d ∈ tables_1, d.before a0 Z = true) (ws : List Jvm.Cond) (a1 : Addr) (b1 : Addr) (cs : Int32) (f : Nat → Int32) (h0 : Heap) (n0 : Nat) (Z0 : n0 ≤ h0.size) (PE : Exa Z h0 a1 "java/lang/String") (PF1 : Fld Z h0 a1 "java/lang/String" "value" "[B" .null) (PF2 : Fld Z h0 a1 "java/lang/String" "coder" "B" (.int 0)) (Pg1 : n0 ≤ a1) (PS : Sta Z h0 "java/lang/String" "COMPACT_STRINGS" "Z" (.int cs)) (Pcs : ¬ cs = 0) (PA1 : own_AI Z h0 b1 .char 2 f) (Pne : a1 ≠ b1) (Pv0 : ¬ (255 : Int32) < f 0) (Pv1 : ¬ (255 : Int32) < f 1) :
    MetFree l (⟨"java/lang/String", "<init>", "([CIILjava/lang/Void;)V"⟩ : MethodName) (head1 (Jvm.Cond.code (⟨"java/lang/String", "<init>", "([CIILjava/lang/Void;)V"⟩ : MethodName) jdk_42_method_149_code 6 none :: ws) ({ frames := 2, cells := 1, slots := 2, locals := 40 } : Room)) (fun a U => a = #[(.ref a1), (.ref b1), (.int (0 : Int32)), (.int (2 : Int32)), .null] ∧ Z.Warmed39 U.vm ∧ U.heap = h0) (fun _ _ _ _ _ => True) (fun _ U o U' => ∃ vv LL, o = .returned vv ∧ own_ap (fun v h L => v = none ∧ Fr n0 L ∧ Keep h0 h [a1]) vv U'.heap LL ∧ FrameEnd U o U' LL 1 2) := by
  refine MetFree.of_bodySF (plainFor_of_name pn_3) hisR ?_
  intro p e s m args below meth c s₁ Bd hml0 hP hK
  obtain ⟨rfl, hZ, hh⟩ := hP
  have hx := Bd.exec
  have hby := Bd.bytes
  have hml : c.maxLocals = 6 := hml0
  have hown : s.vm.findClass "java/lang/String" = some m.cls := findClass_of_methodNamed Bd.named
  have hnm := (name_of_methodNamed Bd.named Bd.method).1
  have X0 : Stand p l e ({ frames := 2, cells := 1, slots := 2, locals := 40 } : Room) s m #[(.ref a1), (.ref b1), (.int (0 : Int32)), (.int (2 : Int32)), .null] below meth c s₁ [] 0 0 := Stand.of_body Bd
  have e0 : s₁.heap = h0 := by rw [← hh, Bd.state]; rfl
  have N0 := Fr.nil n0
  show own_Go p.tables e below (own_Q s (fun v h L => v = none ∧ Fr n0 L ∧ Keep h0 h [a1]) 1 2) (s₁.setTop (entryFrame m #[(.ref a1), (.ref b1), (.int (0 : Int32)), (.int (2 : Int32)), .null] 6))
  rw [show entryFrame m #[(.ref a1), (.ref b1), (.int (0 : Int32)), (.int (2 : Int32)), .null] 6 = mkF m 0 #[.val (.ref a1), .val (.ref b1), .val (.int (0 : Int32)), .val (.int (2 : Int32)), .val .null, .unset] [] from by first | (simp [entryFrame, mkF, argsToLocals, Value.category]; done) | rfl]
  show own_Go _ _ _ _ (s₁.setTop (mkF m 0 #[.val (.ref a1), .val (.ref b1), .val (.int (0 : Int32)), .val (.int (2 : Int32)), .val .null, .unset] []))
  refine own_by (fun _ k => XS.aloadN X0.here hx rfl (hb hby d3_0) rfl rfl k) ?_
  show own_Go _ _ _ _ (s₁.setTop (mkF m 1 #[.val (.ref a1), .val (.ref b1), .val (.int (0 : Int32)), .val (.int (2 : Int32)), .val .null, .unset] [(.ref a1)]))
  obtain ⟨T1, X1, e1, st1⟩ := initO X0 hx hZ hown (hw _ (List.mem_of_getElem? (i := 18) rfl)) (hw _ (List.mem_of_getElem? (i := 19) rfl)) (hw _ (List.mem_of_getElem? (i := 20) rfl)) e0 (g := (mkF m 1 #[.val (.ref a1), .val (.ref b1), .val (.int (0 : Int32)), .val (.int (2 : Int32)), .val .null, .unset] [(.ref a1)])) rfl (by rw [hml]; rfl) rfl (hb hby d3_1) (by decide) (W := 0) (by show 2 * 0 + _ ≤ _; exact Nat.le_of_eq rfl) (by decide)
  refine own_by st1 ?_
  refine own_by (fun _ k => XS.iloadN X1.here hx rfl (hb hby d3_4) rfl k) ?_
  show own_Go _ _ _ _ (T1.setTop (mkF m 5 #[.val (.ref a1), .val (.ref b1), .val (.int (0 : Int32)), .val (.int (2 : Int32)), .val .null, .unset] [(.int (2 : Int32))]))
  refine own_by (fun _ k => XS.ifYes X1.here hx rfl (pc0 := 5) (pc' := 27) rfl (hb hby d3_5) rfl ((if0 _ _).trans (feq (by decide)).2) (by decide) (by decide) k) ?_
  show own_Go _ _ _ _ (T1.setTop (mkF m 27 #[.val (.ref a1), .val (.ref b1), .val (.int (0 : Int32)), .val (.int (2 : Int32)), .val .null, .unset] []))
  obtain ⟨T2, X2, e2, st2⟩ := getS2 X1 hx hZ hown (host := "") (Or.inl (hw _ (List.mem_of_getElem? (i := 32) rfl))) Via.refl e1 PS (g := (mkF m 27 #[.val (.ref a1), .val (.ref b1), .val (.int (0 : Int32)), .val (.int (2 : Int32)), .val .null, .unset] [])) rfl (hb hby d3_27)
  refine own_by st2 ?_
  show own_Go _ _ _ _ (T2.setTop (mkF m 30 #[.val (.ref a1), .val (.ref b1), .val (.int (0 : Int32)), .val (.int (2 : Int32)), .val .null, .unset] [(.int cs)]))
  refine own_by (fun _ k => XS.ifNo X2.here hx rfl (hb hby d3_30) rfl ((if0 _ _).trans (feq Pcs).1) k) ?_
  refine own_by (fun _ k => XS.aloadN X2.here hx rfl (hb hby d3_33) rfl rfl k) ?_
  refine own_by (fun _ k => XS.iloadN X2.here hx rfl (hb hby d3_34) rfl k) ?_
  show own_Go _ _ _ _ (T2.setTop (mkF m 35 #[.val (.ref a1), .val (.ref b1), .val (.int (0 : Int32)), .val (.int (2 : Int32)), .val .null, .unset] [(.int (0 : Int32)), (.ref b1)]))
  refine own_by (fun _ k => XS.iloadN X2.here hx rfl (hb hby d3_35) rfl k) ?_
  show own_Go _ _ _ _ (T2.setTop (mkF m 36 #[.val (.ref a1), .val (.ref b1), .val (.int (0 : Int32)), .val (.int (2 : Int32)), .val .null, .unset] [(.int (2 : Int32)), (.int (0 : Int32)), (.ref b1)]))
  refine own_callS X2 hx hZ hown (hw _ (List.mem_of_getElem? (i := 78) rfl)) (hw _ (List.mem_of_getElem? (i := 79) rfl)) (hw _ (List.mem_of_getElem? (i := 80) rfl)) (hw _ (List.mem_of_getElem? (i := 81) rfl)) (by decide) (rm13_2 l Z a0 hw [] b1 f h0 n0 Z0 PA1 Pv0 Pv1) e2 (by rw [hml]; rfl) [(.ref b1), (.int (0 : Int32)), (.int (2 : Int32))] [] rfl (lenOf own_pd12 rfl) rfl 0 (Nat.le_of_eq rfl) (by decide) (by decide) (Nat.le_of_ble_eq_true rfl) (Nat.le_of_ble_eq_true rfl) (hb hby d3_36) ?_
  intro T3 Lc3 v3 X3 hQ3
  obtain ⟨h3, e3⟩ : ∃ h, T3.heap = h := ⟨_, rfl⟩
  rw [e3] at hQ3
  obtain ⟨bb3, rfl, N3q, K3, -, fz3, AB3⟩ := hQ3
  have N3 := Fr.app N0 N3q
  have f4 := PE.keep K3
  have f5 := PF1.keep K3 nin0
  have f6 := PF2.keep K3 nin0
  have f7 := (Keep.refl h0 [a1]).trans K3 all0
  have f8 := own_sta_keep PS K3 ns0
  have f9 := PA1.keep K3 nin0
  have Z3 := Nat.le_trans Z0 K3.1
  show own_Go _ _ _ _ (T3.setTop (mkF m 39 #[.val (.ref a1), .val (.ref b1), .val (.int (0 : Int32)), .val (.int (2 : Int32)), .val .null, .unset] [(.ref bb3)]))
  refine own_by (fun _ k => XS.astore X3.here hx rfl (hb hby d3_39) rfl rfl (l' := #[.val (.ref a1), .val (.ref b1), .val (.int (0 : Int32)), .val (.int (2 : Int32)), .val .null, .val (.ref bb3)]) rfl k) ?_
  refine own_by (fun _ k => XS.aloadN X3.here hx rfl (hb hby d3_41) rfl rfl k) ?_
  refine own_by (fun _ k => XS.aload X3.here hx rfl (hb hby d3_42) rfl rfl k) ?_
  show own_Go _ _ _ _ (T3.setTop (mkF m 44 #[.val (.ref a1), .val (.ref b1), .val (.int (0 : Int32)), .val (.int (2 : Int32)), .val .null, .val (.ref bb3)] [(.ref bb3), (.ref a1)]))
  refine own_by (fun _ k => XS.iloadN X3.here hx rfl (hb hby d3_44) rfl k) ?_
  show own_Go _ _ _ _ (T3.setTop (mkF m 45 #[.val (.ref a1), .val (.ref b1), .val (.int (0 : Int32)), .val (.int (2 : Int32)), .val .null, .val (.ref bb3)] [(.int (2 : Int32)), (.ref bb3), (.ref a1)]))
  refine own_callS X3 hx hZ hown (hw _ (List.mem_of_getElem? (i := 85) rfl)) (hw _ (List.mem_of_getElem? (i := 86) rfl)) (hw _ (List.mem_of_getElem? (i := 80) rfl)) (hw _ (List.mem_of_getElem? (i := 87) rfl)) (by decide) (rm15_2 l Z a0 hw [] bb3 fz3 h3 n0 Z3 AB3) e3 (by rw [hml]; rfl) [(.ref bb3), (.int (2 : Int32))] [(.ref a1)] rfl (lenOf own_pd14 rfl) rfl 1 (Nat.le_of_eq rfl) (by decide) (by decide) (Nat.le_of_ble_eq_true rfl) (Nat.le_of_ble_eq_true rfl) (hb hby d3_45) ?_
  intro T10 Lc10 v10 X10 hQ10
  obtain ⟨rfl, N10q, e10⟩ := hQ10
  have N10 := Fr.app N3 N10q
  show own_Go _ _ _ _ (T10.setTop (mkF m 48 #[.val (.ref a1), .val (.ref b1), .val (.int (0 : Int32)), .val (.int (2 : Int32)), .val .null, .val (.ref bb3)] [(.int (0 : Int32)), (.ref a1)]))
  obtain ⟨T11, h11, X11, e11, W11, st11⟩ := putFN X10 hx hZ hown (hw _ (List.mem_of_getElem? (i := 28) rfl)) Via.refl e10 f6 f4 (Or.inr ⟨(hw _ (List.mem_of_getElem? (i := 24) rfl)), rfl, hnm⟩) (hw _ (List.mem_of_getElem? (i := 8) rfl)) (ty := .byte) (v' := (.int (nar .byte (0 : Int32)))) (by decide) rfl (fits_nar_byte _) (g := (mkF m 48 #[.val (.ref a1), .val (.ref b1), .val (.int (0 : Int32)), .val (.int (2 : Int32)), .val .null, .val (.ref bb3)] [(.int (0 : Int32)), (.ref a1)])) rfl rfl (hb hby d3_48)
  refine own_by st11 ?_
  have f12 := f6.same W11
  have f13 := f4.wr W11
  have f14 := f5.other W11 (Or.inr (slot_ne (Or.inr (hw _ (List.mem_of_getElem? (i := 23) rfl))) (Or.inr (hw _ (List.mem_of_getElem? (i := 24) rfl))) (by decide) (t := (.array .byte)) (t' := .byte) (by decide) (by decide)))
  have f15 := f7.wr W11 (Or.inl (List.mem_of_getElem? (i := 0) rfl))
  have f16 := f8.wr W11
  have f17 := f9.other W11 (Ne.symm Pne)
  have N11 := Fr.snoc X11 N10 Pg1
  have Z11 := own_size_wr W11 Z3
  show own_Go _ _ _ _ (T11.setTop (mkF m 51 #[.val (.ref a1), .val (.ref b1), .val (.int (0 : Int32)), .val (.int (2 : Int32)), .val .null, .val (.ref bb3)] []))
  refine own_by (fun _ k => XS.aloadN X11.here hx rfl (hb hby d3_51) rfl rfl k) ?_
  refine own_by (fun _ k => XS.aload X11.here hx rfl (hb hby d3_52) rfl rfl k) ?_
  show own_Go _ _ _ _ (T11.setTop (mkF m 54 #[.val (.ref a1), .val (.ref b1), .val (.int (0 : Int32)), .val (.int (2 : Int32)), .val .null, .val (.ref bb3)] [(.ref bb3), (.ref a1)]))
  obtain ⟨T18, h18, X18, e18, W18, st18⟩ := putF X11 hx hZ hown (host := "") (Or.inl (hw _ (List.mem_of_getElem? (i := 27) rfl))) Via.refl e11 f14 f13 (Or.inr ⟨(hw _ (List.mem_of_getElem? (i := 23) rfl)), rfl, hnm⟩) (hw _ (List.mem_of_getElem? (i := 8) rfl)) (ty := (.array .byte)) (by decide) rfl rfl (g := (mkF m 54 #[.val (.ref a1), .val (.ref b1), .val (.int (0 : Int32)), .val (.int (2 : Int32)), .val .null, .val (.ref bb3)] [(.ref bb3), (.ref a1)])) rfl rfl (hb hby d3_54)
  refine own_by st18 ?_
  have f19 := f14.same W18
  have f20 := f13.wr W18
  have f21 := f12.other W18 (Or.inr (slot_ne (Or.inr (hw _ (List.mem_of_getElem? (i := 24) rfl))) (Or.inr (hw _ (List.mem_of_getElem? (i := 23) rfl))) (by decide) (t := .byte) (t' := (.array .byte)) (by decide) (by decide)))
  have f22 := f15.wr W18 (Or.inl (List.mem_of_getElem? (i := 0) rfl))
  have f23 := f16.wr W18
  have f24 := f17.other W18 (Ne.symm Pne)
  have N18 := Fr.snoc X18 N11 Pg1
  have Z18 := own_size_wr W18 Z11
  show own_Go _ _ _ _ (T18.setTop (mkF m 57 #[.val (.ref a1), .val (.ref b1), .val (.int (0 : Int32)), .val (.int (2 : Int32)), .val .null, .val (.ref bb3)] []))
  exact own_retV X18 hx Bd.notSynchronized e18 Bd.returns (hb hby d3_57) (⟨rfl, N18, f22⟩) (by decide) (by decide)
set_option maxRecDepth 65536 in
set_option maxHeartbeats 40000000 in
theorem rm2_2 (l : Launch) (Z : State) (a0 : Array Value) (hw : ∀ d ∈ tables_1, d.before a0 Z = true) (ws : List Jvm.Cond) (a1 : Addr) (b1 : Addr) (cs : Int32) (f : Nat → Int32) (h0 : Heap) (n0 : Nat) (Z0 : n0 ≤ h0.size) (PE : Exa Z h0 a1 "java/lang/String") (PF1 : Fld Z h0 a1 "java/lang/String" "value" "[B" .null) (PF2 : Fld Z h0 a1 "java/lang/String" "coder" "B" (.int 0)) (Pg1 : n0 ≤ a1) (PS : Sta Z h0 "java/lang/String" "COMPACT_STRINGS" "Z" (.int cs)) (Pcs : ¬ cs = 0) (PA1 : own_AI Z h0 b1 .char 2 f) (Pne : a1 ≠ b1) (Pv0 : ¬ (255 : Int32) < f 0) (Pv1 : ¬ (255 : Int32) < f 1) :
    MetFree l (⟨"java/lang/String", "<init>", "([C)V"⟩ : MethodName) (head1 (Jvm.Cond.code (⟨"java/lang/String", "<init>", "([C)V"⟩ : MethodName) jdk_42_method_3_code 2 none :: ws) ({ frames := 3, cells := 1, slots := 2, locals := 60 } : Room)) (fun a U => a = #[(.ref a1), (.ref b1)] ∧ Z.Warmed39 U.vm ∧ U.heap = h0) (fun _ _ _ _ _ => True) (fun _ U o U' => ∃ vv LL, o = .returned vv ∧ own_ap (fun v h L => v = none ∧ Fr n0 L ∧ Keep h0 h [a1]) vv U'.heap LL ∧ FrameEnd U o U' LL 1 2) := by
  refine MetFree.of_bodySF (plainFor_of_name pn_2) hisR ?_
  intro p e s m args below meth c s₁ Bd hml0 hP hK
  obtain ⟨rfl, hZ, hh⟩ := hP
  have hx := Bd.exec
  have hby := Bd.bytes
  have hml : c.maxLocals = 2 := hml0
  have hown : s.vm.findClass "java/lang/String" = some m.cls := findClass_of_methodNamed Bd.named
  have hnm := (name_of_methodNamed Bd.named Bd.method).1
  have X0 : Stand p l e ({ frames := 3, cells := 1, slots := 2, locals := 60 } : Room) s m #[(.ref a1), (.ref b1)] below meth c s₁ [] 0 0 := Stand.of_body Bd
  have e0 : s₁.heap = h0 := by rw [← hh, Bd.state]; rfl
  have N0 := Fr.nil n0
  show own_Go p.tables e below (own_Q s (fun v h L => v = none ∧ Fr n0 L ∧ Keep h0 h [a1]) 1 2) (s₁.setTop (entryFrame m #[(.ref a1), (.ref b1)] 2))
  rw [show entryFrame m #[(.ref a1), (.ref b1)] 2 = mkF m 0 #[.val (.ref a1), .val (.ref b1)] [] from by first | (simp [entryFrame, mkF, argsToLocals, Value.category]; done) | rfl]
  show own_Go _ _ _ _ (s₁.setTop (mkF m 0 #[.val (.ref a1), .val (.ref b1)] []))
  refine own_by (fun _ k => XS.aloadN X0.here hx rfl (hb hby d2_0) rfl rfl k) ?_
  refine own_by (fun _ k => XS.aloadN X0.here hx rfl (hb hby d2_1) rfl rfl k) ?_
  refine own_by (fun _ k => XS.iconst X0.here hx rfl (hb hby d2_2) k) ?_
  show own_Go _ _ _ _ (s₁.setTop (mkF m 3 #[.val (.ref a1), .val (.ref b1)] [(.int (0 : Int32)), (.ref b1), (.ref a1)]))
  refine own_by (fun _ k => XS.aloadN X0.here hx rfl (hb hby d2_3) rfl rfl k) ?_
  show own_Go _ _ _ _ (s₁.setTop (mkF m 4 #[.val (.ref a1), .val (.ref b1)] [(.ref b1), (.int (0 : Int32)), (.ref b1), (.ref a1)]))
  refine own_by (fun _ k => own_len X0 hx hZ e0 PA1 (2 : Int32) (by decide) (hb hby d2_4) k) ?_
  show own_Go _ _ _ _ (s₁.setTop (mkF m 5 #[.val (.ref a1), .val (.ref b1)] [(.int (2 : Int32)), (.int (0 : Int32)), (.ref b1), (.ref a1)]))
  refine own_by (fun _ k => XS.aconstNull X0.here hx rfl (hb hby d2_5) k) ?_
  show own_Go _ _ _ _ (s₁.setTop (mkF m 6 #[.val (.ref a1), .val (.ref b1)] [.null, (.int (2 : Int32)), (.int (0 : Int32)), (.ref b1), (.ref a1)]))
  refine own_callI X0 hx hZ hown rfl (hw _ (List.mem_of_getElem? (i := 14) rfl)) (hw _ (List.mem_of_getElem? (i := 15) rfl)) (hw _ (List.mem_of_getElem? (i := 9) rfl)) (hw _ (List.mem_of_getElem? (i := 17) rfl)) (by decide) (rm3_2 l Z a0 hw [] a1 b1 cs f h0 n0 Z0 PE PF1 PF2 Pg1 PS Pcs PA1 Pne Pv0 Pv1) e0 (by rw [hml]; rfl) a1 [(.ref b1), (.int (0 : Int32)), (.int (2 : Int32)), .null] [] rfl (lenOf own_pd3 rfl) rfl 0 (Nat.le_of_eq rfl) (by decide) (by decide) (Nat.le_of_ble_eq_true rfl) (Nat.le_of_ble_eq_true rfl) (hb hby d2_6) ?_
  intro T1 Lc1 v1 X1 hQ1
  obtain ⟨h1, e1⟩ : ∃ h, T1.heap = h := ⟨_, rfl⟩
  rw [e1] at hQ1
  obtain ⟨rfl, N1q, K1⟩ := hQ1
  have N1 := Fr.app N0 N1q
  have f2 := PE.keep K1
  have f5 := (Keep.refl h0 [a1]).trans K1 (allS (P := fun x => x ∈ [a1] ∨ h0.size ≤ x) (Or.inl (List.mem_of_getElem? (i := 0) rfl)) all0)
  have f6 := own_sta_keep PS K1 (nsS PE.nostat ns0)
  have f7 := PA1.keep K1 (ninS (Ne.symm Pne) nin0)
  have Z1 := Nat.le_trans Z0 K1.1
  show own_Go _ _ _ _ (T1.setTop (mkF m 9 #[.val (.ref a1), .val (.ref b1)] []))
  exact own_retV X1 hx Bd.notSynchronized e1 Bd.returns (hb hby d2_9) (⟨rfl, N1, f5⟩) (by decide) (by decide)
set_option maxRecDepth 65536 in
set_option maxHeartbeats 40000000 in
theorem rm14_3 (l : Launch) (Z : State) (a0 : Array Value) (hw : ∀ d ∈ tables_1, d.before a0 Z = true) (ws : List Jvm.Cond) (a1 : Addr) (a2 : Addr) (f fz : Nat → Int32) (h0 : Heap) (n0 : Nat) (Z0 : n0 ≤ h0.size) (PA1 : own_AI Z h0 a1 .char 3 f) (PA2 : own_AI Z h0 a2 .byte 3 fz) (Pg2 : n0 ≤ a2) (Pne : a1 ≠ a2) (Pv0 : ¬ (255 : Int32) < f 0) (Pv1 : ¬ (255 : Int32) < f 1) (Pv2 : ¬ (255 : Int32) < f 2) :
    MetFree l (⟨"java/lang/StringUTF16", "compress", "([CI[BII)I"⟩ : MethodName) (head1 (Jvm.Cond.code (⟨"java/lang/StringUTF16", "compress", "([CI[BII)I"⟩ : MethodName) jdk_52_method_21_code 7 (some .int) :: ws) ({ frames := 0, cells := 0, slots := 0, locals := 0 } : Room)) (fun a U => a = #[(.ref a1), (.int (0 : Int32)), (.ref a2), (.int (0 : Int32)), (.int (3 : Int32))] ∧ Z.Warmed39 U.vm ∧ U.heap = h0) (fun _ _ _ _ _ => True) (fun _ U o U' => ∃ vv LL, o = .returned vv ∧ own_ap (fun v h L => v = some (.int 3) ∧ Fr n0 L ∧ Keep h0 h [a2] ∧ ∃ fy, own_AI Z h a2 .byte 3 fy) vv U'.heap LL ∧ FrameEnd U o U' LL 0 0) := by
  refine MetFree.of_bodySF (plainFor_of_name pn_14) hisR ?_
  intro p e s m args below meth c s₁ Bd hml0 hP hK
  obtain ⟨rfl, hZ, hh⟩ := hP
  have hx := Bd.exec
  have hby := Bd.bytes
  have hml : c.maxLocals = 7 := hml0
  have hown : s.vm.findClass "java/lang/StringUTF16" = some m.cls := findClass_of_methodNamed Bd.named
  have hnm := (name_of_methodNamed Bd.named Bd.method).1
  have X0 : Stand p l e ({ frames := 0, cells := 0, slots := 0, locals := 0 } : Room) s m #[(.ref a1), (.int (0 : Int32)), (.ref a2), (.int (0 : Int32)), (.int (3 : Int32))] below meth c s₁ [] 0 0 := Stand.of_body Bd
  have e0 : s₁.heap = h0 := by rw [← hh, Bd.state]; rfl
  have N0 := Fr.nil n0
  show own_Go p.tables e below (own_Q s (fun v h L => v = some (.int 3) ∧ Fr n0 L ∧ Keep h0 h [a2] ∧ ∃ fy, own_AI Z h a2 .byte 3 fy) 0 0) (s₁.setTop (entryFrame m #[(.ref a1), (.int (0 : Int32)), (.ref a2), (.int (0 : Int32)), (.int (3 : Int32))] 7))
  rw [show entryFrame m #[(.ref a1), (.int (0 : Int32)), (.ref a2), (.int (0 : Int32)), (.int (3 : Int32))] 7 = mkF m 0 #[.val (.ref a1), .val (.int (0 : Int32)), .val (.ref a2), .val (.int (0 : Int32)), .val (.int (3 : Int32)), .unset, .unset] [] from by first | (simp [entryFrame, mkF, argsToLocals, Value.category]; done) | rfl]
  show own_Go _ _ _ _ (s₁.setTop (mkF m 0 #[.val (.ref a1), .val (.int (0 : Int32)), .val (.ref a2), .val (.int (0 : Int32)), .val (.int (3 : Int32)), .unset, .unset] []))
  refine own_by (fun _ k => XS.iconst X0.here hx rfl (hb hby d14_0) k) ?_
  show own_Go _ _ _ _ (s₁.setTop (mkF m 1 #[.val (.ref a1), .val (.int (0 : Int32)), .val (.ref a2), .val (.int (0 : Int32)), .val (.int (3 : Int32)), .unset, .unset] [(.int (0 : Int32))]))
  refine own_by (fun _ k => XS.istore X0.here hx rfl (hb hby d14_1) rfl (l' := #[.val (.ref a1), .val (.int (0 : Int32)), .val (.ref a2), .val (.int (0 : Int32)), .val (.int (3 : Int32)), .val (.int (0 : Int32)), .unset]) rfl k) ?_
  refine own_by (fun _ k => XS.iload X0.here hx rfl (hb hby d14_3) rfl k) ?_
  refine own_by (fun _ k => XS.iload X0.here hx rfl (hb hby d14_5) rfl k) ?_
  show own_Go _ _ _ _ (s₁.setTop (mkF m 7 #[.val (.ref a1), .val (.int (0 : Int32)), .val (.ref a2), .val (.int (0 : Int32)), .val (.int (3 : Int32)), .val (.int (0 : Int32)), .unset] [(.int (3 : Int32)), (.int (0 : Int32))]))
  refine own_by (fun _ k => XS.icmpNo X0.here hx rfl (hb hby d14_7) rfl (tlt (by decide)).2.1 k) ?_
  refine own_by (fun _ k => XS.aloadN X0.here hx rfl (hb hby d14_10) rfl rfl k) ?_
  refine own_by (fun _ k => XS.iloadN X0.here hx rfl (hb hby d14_11) rfl k) ?_
  show own_Go _ _ _ _ (s₁.setTop (mkF m 12 #[.val (.ref a1), .val (.int (0 : Int32)), .val (.ref a2), .val (.int (0 : Int32)), .val (.int (3 : Int32)), .val (.int (0 : Int32)), .unset] [(.int (0 : Int32)), (.ref a1)]))
  refine own_by (fun _ k => own_cal X0 hx hZ e0 PA1 0 (by decide) (by decide) (hb hby d14_12) k) ?_
  show own_Go _ _ _ _ (s₁.setTop (mkF m 13 #[.val (.ref a1), .val (.int (0 : Int32)), .val (.ref a2), .val (.int (0 : Int32)), .val (.int (3 : Int32)), .val (.int (0 : Int32)), .unset] [(.int (f 0))]))
  obtain ⟨v6_1, hv6_1⟩ : ∃ z_ : Int32, (f 0) = z_ := ⟨_, rfl⟩
  refine own_gen hv6_1 (fun z_ => s₁.setTop (mkF m 13 #[.val (.ref a1), .val (.int (0 : Int32)), .val (.ref a2), .val (.int (0 : Int32)), .val (.int (3 : Int32)), .val (.int (0 : Int32)), .unset] [(.int z_)])) ?_
  refine own_by (fun _ k => XS.istore X0.here hx rfl (hb hby d14_13) rfl (l' := #[.val (.ref a1), .val (.int (0 : Int32)), .val (.ref a2), .val (.int (0 : Int32)), .val (.int (3 : Int32)), .val (.int (0 : Int32)), .val (.int v6_1)]) rfl k) ?_
  refine own_by (fun _ k => XS.iload X0.here hx rfl (hb hby d14_15) rfl k) ?_
  refine own_by (fun _ k => XS.sipush X0.here hx rfl (hb hby d14_17) k) ?_
  show own_Go _ _ _ _ (s₁.setTop (mkF m 20 #[.val (.ref a1), .val (.int (0 : Int32)), .val (.ref a2), .val (.int (0 : Int32)), .val (.int (3 : Int32)), .val (.int (0 : Int32)), .val (.int v6_1)] [(.int (255 : Int32)), (.int v6_1)]))
  refine own_by (fun _ k => XS.icmpYes X0.here hx rfl (pc0 := 20) (pc' := 26) rfl (hb hby d14_20) rfl (flt (by rw [← hv6_1]; exact Pv0)).2.2.2 (by decide) (by decide) k) ?_
  refine own_by (fun _ k => XS.aloadN X0.here hx rfl (hb hby d14_26) rfl rfl k) ?_
  refine own_by (fun _ k => XS.iloadN X0.here hx rfl (hb hby d14_27) rfl k) ?_
  show own_Go _ _ _ _ (s₁.setTop (mkF m 28 #[.val (.ref a1), .val (.int (0 : Int32)), .val (.ref a2), .val (.int (0 : Int32)), .val (.int (3 : Int32)), .val (.int (0 : Int32)), .val (.int v6_1)] [(.int (0 : Int32)), (.ref a2)]))
  refine own_by (fun _ k => XS.iload X0.here hx rfl (hb hby d14_28) rfl k) ?_
  show own_Go _ _ _ _ (s₁.setTop (mkF m 30 #[.val (.ref a1), .val (.int (0 : Int32)), .val (.ref a2), .val (.int (0 : Int32)), .val (.int (3 : Int32)), .val (.int (0 : Int32)), .val (.int v6_1)] [(.int v6_1), (.int (0 : Int32)), (.ref a2)]))
  refine own_by (fun _ k => XS.i2b X0.here hx rfl (hb hby d14_30) rfl k) ?_
  show own_Go _ _ _ _ (s₁.setTop (mkF m 31 #[.val (.ref a1), .val (.int (0 : Int32)), .val (.ref a2), .val (.int (0 : Int32)), .val (.int (3 : Int32)), .val (.int (0 : Int32)), .val (.int v6_1)] [(.int (v6_1.toInt8.toInt32)), (.int (0 : Int32)), (.ref a2)]))
  refine own_bas X0 hx hZ e0 PA2 0 (by decide) (by decide) (hb hby d14_31) ?_
  intro T2 h2 X2 e2 W2 A2
  have f3 := PA1.other W2 Pne
  have f4 := (Keep.refl h0 [a2]).wr W2 (Or.inl (List.mem_of_getElem? (i := 0) rfl))
  have N2 := Fr.snoc X2 N0 Pg2
  have Z2 := own_size_wr W2 Z0
  obtain ⟨fn2, hfn2⟩ : ∃ gf_ : Nat → Int32, gf_ = own_upd fz 0 (nar .byte (v6_1.toInt8.toInt32)) := ⟨_, rfl⟩
  rw [← hfn2] at A2
  show own_Go _ _ _ _ (T2.setTop (mkF m 32 #[.val (.ref a1), .val (.int (0 : Int32)), .val (.ref a2), .val (.int (0 : Int32)), .val (.int (3 : Int32)), .val (.int (0 : Int32)), .val (.int v6_1)] []))
  refine own_by (fun _ k => XS.iinc X2.here hx rfl (hb hby d14_32) rfl (l' := #[.val (.ref a1), .val (.int ((0 : Int32) + (1 : Int32))), .val (.ref a2), .val (.int (0 : Int32)), .val (.int (3 : Int32)), .val (.int (0 : Int32)), .val (.int v6_1)]) rfl k) ?_
  show own_Go _ _ _ _ (T2.setTop (mkF m 35 #[.val (.ref a1), .val (.int ((0 : Int32) + (1 : Int32))), .val (.ref a2), .val (.int (0 : Int32)), .val (.int (3 : Int32)), .val (.int (0 : Int32)), .val (.int v6_1)] []))
  rw [(by decide : ((0 : Int32) + (1 : Int32)) = (1 : Int32))]
  show own_Go _ _ _ _ (T2.setTop (mkF m 35 #[.val (.ref a1), .val (.int (1 : Int32)), .val (.ref a2), .val (.int (0 : Int32)), .val (.int (3 : Int32)), .val (.int (0 : Int32)), .val (.int v6_1)] []))
  refine own_by (fun _ k => XS.iinc X2.here hx rfl (hb hby d14_35) rfl (l' := #[.val (.ref a1), .val (.int (1 : Int32)), .val (.ref a2), .val (.int ((0 : Int32) + (1 : Int32))), .val (.int (3 : Int32)), .val (.int (0 : Int32)), .val (.int v6_1)]) rfl k) ?_
  show own_Go _ _ _ _ (T2.setTop (mkF m 38 #[.val (.ref a1), .val (.int (1 : Int32)), .val (.ref a2), .val (.int ((0 : Int32) + (1 : Int32))), .val (.int (3 : Int32)), .val (.int (0 : Int32)), .val (.int v6_1)] []))
  rw [(by decide : ((0 : Int32) + (1 : Int32)) = (1 : Int32))]
  show own_Go _ _ _ _ (T2.setTop (mkF m 38 #[.val (.ref a1), .val (.int (1 : Int32)), .val (.ref a2), .val (.int (1 : Int32)), .val (.int (3 : Int32)), .val (.int (0 : Int32)), .val (.int v6_1)] []))
  refine own_by (fun _ k => XS.iinc X2.here hx rfl (hb hby d14_38) rfl (l' := #[.val (.ref a1), .val (.int (1 : Int32)), .val (.ref a2), .val (.int (1 : Int32)), .val (.int (3 : Int32)), .val (.int ((0 : Int32) + (1 : Int32))), .val (.int v6_1)]) rfl k) ?_
  show own_Go _ _ _ _ (T2.setTop (mkF m 41 #[.val (.ref a1), .val (.int (1 : Int32)), .val (.ref a2), .val (.int (1 : Int32)), .val (.int (3 : Int32)), .val (.int ((0 : Int32) + (1 : Int32))), .val (.int v6_1)] []))
  rw [(by decide : ((0 : Int32) + (1 : Int32)) = (1 : Int32))]
  show own_Go _ _ _ _ (T2.setTop (mkF m 41 #[.val (.ref a1), .val (.int (1 : Int32)), .val (.ref a2), .val (.int (1 : Int32)), .val (.int (3 : Int32)), .val (.int (1 : Int32)), .val (.int v6_1)] []))
  refine own_by (fun _ k => XS.goto X2.here hx rfl (pc0 := 41) (pc' := 3) rfl (hb hby d14_41) (by decide) (by decide) k) ?_
  refine own_by (fun _ k => XS.iload X2.here hx rfl (hb hby d14_3) rfl k) ?_
  refine own_by (fun _ k => XS.iload X2.here hx rfl (hb hby d14_5) rfl k) ?_
  show own_Go _ _ _ _ (T2.setTop (mkF m 7 #[.val (.ref a1), .val (.int (1 : Int32)), .val (.ref a2), .val (.int (1 : Int32)), .val (.int (3 : Int32)), .val (.int (1 : Int32)), .val (.int v6_1)] [(.int (3 : Int32)), (.int (1 : Int32))]))
  refine own_by (fun _ k => XS.icmpNo X2.here hx rfl (hb hby d14_7) rfl (tlt (by decide)).2.1 k) ?_
  refine own_by (fun _ k => XS.aloadN X2.here hx rfl (hb hby d14_10) rfl rfl k) ?_
  refine own_by (fun _ k => XS.iloadN X2.here hx rfl (hb hby d14_11) rfl k) ?_
  show own_Go _ _ _ _ (T2.setTop (mkF m 12 #[.val (.ref a1), .val (.int (1 : Int32)), .val (.ref a2), .val (.int (1 : Int32)), .val (.int (3 : Int32)), .val (.int (1 : Int32)), .val (.int v6_1)] [(.int (1 : Int32)), (.ref a1)]))
  refine own_by (fun _ k => own_cal X2 hx hZ e2 f3 1 (by decide) (by decide) (hb hby d14_12) k) ?_
  show own_Go _ _ _ _ (T2.setTop (mkF m 13 #[.val (.ref a1), .val (.int (1 : Int32)), .val (.ref a2), .val (.int (1 : Int32)), .val (.int (3 : Int32)), .val (.int (1 : Int32)), .val (.int v6_1)] [(.int (f 1))]))
  obtain ⟨v6_5, hv6_5⟩ : ∃ z_ : Int32, (f 1) = z_ := ⟨_, rfl⟩
  refine own_gen hv6_5 (fun z_ => T2.setTop (mkF m 13 #[.val (.ref a1), .val (.int (1 : Int32)), .val (.ref a2), .val (.int (1 : Int32)), .val (.int (3 : Int32)), .val (.int (1 : Int32)), .val (.int v6_1)] [(.int z_)])) ?_
  refine own_by (fun _ k => XS.istore X2.here hx rfl (hb hby d14_13) rfl (l' := #[.val (.ref a1), .val (.int (1 : Int32)), .val (.ref a2), .val (.int (1 : Int32)), .val (.int (3 : Int32)), .val (.int (1 : Int32)), .val (.int v6_5)]) rfl k) ?_
  refine own_by (fun _ k => XS.iload X2.here hx rfl (hb hby d14_15) rfl k) ?_
  refine own_by (fun _ k => XS.sipush X2.here hx rfl (hb hby d14_17) k) ?_
  show own_Go _ _ _ _ (T2.setTop (mkF m 20 #[.val (.ref a1), .val (.int (1 : Int32)), .val (.ref a2), .val (.int (1 : Int32)), .val (.int (3 : Int32)), .val (.int (1 : Int32)), .val (.int v6_5)] [(.int (255 : Int32)), (.int v6_5)]))
  refine own_by (fun _ k => XS.icmpYes X2.here hx rfl (pc0 := 20) (pc' := 26) rfl (hb hby d14_20) rfl (flt (by rw [← hv6_5]; exact Pv1)).2.2.2 (by decide) (by decide) k) ?_
  refine own_by (fun _ k => XS.aloadN X2.here hx rfl (hb hby d14_26) rfl rfl k) ?_
  refine own_by (fun _ k => XS.iloadN X2.here hx rfl (hb hby d14_27) rfl k) ?_
  show own_Go _ _ _ _ (T2.setTop (mkF m 28 #[.val (.ref a1), .val (.int (1 : Int32)), .val (.ref a2), .val (.int (1 : Int32)), .val (.int (3 : Int32)), .val (.int (1 : Int32)), .val (.int v6_5)] [(.int (1 : Int32)), (.ref a2)]))
  refine own_by (fun _ k => XS.iload X2.here hx rfl (hb hby d14_28) rfl k) ?_
  show own_Go _ _ _ _ (T2.setTop (mkF m 30 #[.val (.ref a1), .val (.int (1 : Int32)), .val (.ref a2), .val (.int (1 : Int32)), .val (.int (3 : Int32)), .val (.int (1 : Int32)), .val (.int v6_5)] [(.int v6_5), (.int (1 : Int32)), (.ref a2)]))
  refine own_by (fun _ k => XS.i2b X2.here hx rfl (hb hby d14_30) rfl k) ?_
  show own_Go _ _ _ _ (T2.setTop (mkF m 31 #[.val (.ref a1), .val (.int (1 : Int32)), .val (.ref a2), .val (.int (1 : Int32)), .val (.int (3 : Int32)), .val (.int (1 : Int32)), .val (.int v6_5)] [(.int (v6_5.toInt8.toInt32)), (.int (1 : Int32)), (.ref a2)]))
  refine own_bas X2 hx hZ e2 A2 1 (by decide) (by decide) (hb hby d14_31) ?_
  intro T6 h6 X6 e6 W6 A6
  have f7 := f3.other W6 Pne
  have f8 := f4.wr W6 (Or.inl (List.mem_of_getElem? (i := 0) rfl))
  have N6 := Fr.snoc X6 N2 Pg2
  have Z6 := own_size_wr W6 Z2
  obtain ⟨fn6, hfn6⟩ : ∃ gf_ : Nat → Int32, gf_ = own_upd fn2 1 (nar .byte (v6_5.toInt8.toInt32)) := ⟨_, rfl⟩
  rw [← hfn6] at A6
  show own_Go _ _ _ _ (T6.setTop (mkF m 32 #[.val (.ref a1), .val (.int (1 : Int32)), .val (.ref a2), .val (.int (1 : Int32)), .val (.int (3 : Int32)), .val (.int (1 : Int32)), .val (.int v6_5)] []))
  refine own_by (fun _ k => XS.iinc X6.here hx rfl (hb hby d14_32) rfl (l' := #[.val (.ref a1), .val (.int ((1 : Int32) + (1 : Int32))), .val (.ref a2), .val (.int (1 : Int32)), .val (.int (3 : Int32)), .val (.int (1 : Int32)), .val (.int v6_5)]) rfl k) ?_
  show own_Go _ _ _ _ (T6.setTop (mkF m 35 #[.val (.ref a1), .val (.int ((1 : Int32) + (1 : Int32))), .val (.ref a2), .val (.int (1 : Int32)), .val (.int (3 : Int32)), .val (.int (1 : Int32)), .val (.int v6_5)] []))
  rw [(by decide : ((1 : Int32) + (1 : Int32)) = (2 : Int32))]
  show own_Go _ _ _ _ (T6.setTop (mkF m 35 #[.val (.ref a1), .val (.int (2 : Int32)), .val (.ref a2), .val (.int (1 : Int32)), .val (.int (3 : Int32)), .val (.int (1 : Int32)), .val (.int v6_5)] []))
  refine own_by (fun _ k => XS.iinc X6.here hx rfl (hb hby d14_35) rfl (l' := #[.val (.ref a1), .val (.int (2 : Int32)), .val (.ref a2), .val (.int ((1 : Int32) + (1 : Int32))), .val (.int (3 : Int32)), .val (.int (1 : Int32)), .val (.int v6_5)]) rfl k) ?_
  show own_Go _ _ _ _ (T6.setTop (mkF m 38 #[.val (.ref a1), .val (.int (2 : Int32)), .val (.ref a2), .val (.int ((1 : Int32) + (1 : Int32))), .val (.int (3 : Int32)), .val (.int (1 : Int32)), .val (.int v6_5)] []))
  rw [(by decide : ((1 : Int32) + (1 : Int32)) = (2 : Int32))]
  show own_Go _ _ _ _ (T6.setTop (mkF m 38 #[.val (.ref a1), .val (.int (2 : Int32)), .val (.ref a2), .val (.int (2 : Int32)), .val (.int (3 : Int32)), .val (.int (1 : Int32)), .val (.int v6_5)] []))
  refine own_by (fun _ k => XS.iinc X6.here hx rfl (hb hby d14_38) rfl (l' := #[.val (.ref a1), .val (.int (2 : Int32)), .val (.ref a2), .val (.int (2 : Int32)), .val (.int (3 : Int32)), .val (.int ((1 : Int32) + (1 : Int32))), .val (.int v6_5)]) rfl k) ?_
  show own_Go _ _ _ _ (T6.setTop (mkF m 41 #[.val (.ref a1), .val (.int (2 : Int32)), .val (.ref a2), .val (.int (2 : Int32)), .val (.int (3 : Int32)), .val (.int ((1 : Int32) + (1 : Int32))), .val (.int v6_5)] []))
  rw [(by decide : ((1 : Int32) + (1 : Int32)) = (2 : Int32))]
  show own_Go _ _ _ _ (T6.setTop (mkF m 41 #[.val (.ref a1), .val (.int (2 : Int32)), .val (.ref a2), .val (.int (2 : Int32)), .val (.int (3 : Int32)), .val (.int (2 : Int32)), .val (.int v6_5)] []))
  refine own_by (fun _ k => XS.goto X6.here hx rfl (pc0 := 41) (pc' := 3) rfl (hb hby d14_41) (by decide) (by decide) k) ?_
  refine own_by (fun _ k => XS.iload X6.here hx rfl (hb hby d14_3) rfl k) ?_
  refine own_by (fun _ k => XS.iload X6.here hx rfl (hb hby d14_5) rfl k) ?_
  show own_Go _ _ _ _ (T6.setTop (mkF m 7 #[.val (.ref a1), .val (.int (2 : Int32)), .val (.ref a2), .val (.int (2 : Int32)), .val (.int (3 : Int32)), .val (.int (2 : Int32)), .val (.int v6_5)] [(.int (3 : Int32)), (.int (2 : Int32))]))
  refine own_by (fun _ k => XS.icmpNo X6.here hx rfl (hb hby d14_7) rfl (tlt (by decide)).2.1 k) ?_
  refine own_by (fun _ k => XS.aloadN X6.here hx rfl (hb hby d14_10) rfl rfl k) ?_
  refine own_by (fun _ k => XS.iloadN X6.here hx rfl (hb hby d14_11) rfl k) ?_
  show own_Go _ _ _ _ (T6.setTop (mkF m 12 #[.val (.ref a1), .val (.int (2 : Int32)), .val (.ref a2), .val (.int (2 : Int32)), .val (.int (3 : Int32)), .val (.int (2 : Int32)), .val (.int v6_5)] [(.int (2 : Int32)), (.ref a1)]))
  refine own_by (fun _ k => own_cal X6 hx hZ e6 f7 2 (by decide) (by decide) (hb hby d14_12) k) ?_
  show own_Go _ _ _ _ (T6.setTop (mkF m 13 #[.val (.ref a1), .val (.int (2 : Int32)), .val (.ref a2), .val (.int (2 : Int32)), .val (.int (3 : Int32)), .val (.int (2 : Int32)), .val (.int v6_5)] [(.int (f 2))]))
  obtain ⟨v6_9, hv6_9⟩ : ∃ z_ : Int32, (f 2) = z_ := ⟨_, rfl⟩
  refine own_gen hv6_9 (fun z_ => T6.setTop (mkF m 13 #[.val (.ref a1), .val (.int (2 : Int32)), .val (.ref a2), .val (.int (2 : Int32)), .val (.int (3 : Int32)), .val (.int (2 : Int32)), .val (.int v6_5)] [(.int z_)])) ?_
  refine own_by (fun _ k => XS.istore X6.here hx rfl (hb hby d14_13) rfl (l' := #[.val (.ref a1), .val (.int (2 : Int32)), .val (.ref a2), .val (.int (2 : Int32)), .val (.int (3 : Int32)), .val (.int (2 : Int32)), .val (.int v6_9)]) rfl k) ?_
  refine own_by (fun _ k => XS.iload X6.here hx rfl (hb hby d14_15) rfl k) ?_
  refine own_by (fun _ k => XS.sipush X6.here hx rfl (hb hby d14_17) k) ?_
  show own_Go _ _ _ _ (T6.setTop (mkF m 20 #[.val (.ref a1), .val (.int (2 : Int32)), .val (.ref a2), .val (.int (2 : Int32)), .val (.int (3 : Int32)), .val (.int (2 : Int32)), .val (.int v6_9)] [(.int (255 : Int32)), (.int v6_9)]))
  refine own_by (fun _ k => XS.icmpYes X6.here hx rfl (pc0 := 20) (pc' := 26) rfl (hb hby d14_20) rfl (flt (by rw [← hv6_9]; exact Pv2)).2.2.2 (by decide) (by decide) k) ?_
  refine own_by (fun _ k => XS.aloadN X6.here hx rfl (hb hby d14_26) rfl rfl k) ?_
  refine own_by (fun _ k => XS.iloadN X6.here hx rfl (hb hby d14_27) rfl k) ?_
  show own_Go _ _ _ _ (T6.setTop (mkF m 28 #[.val (.ref a1), .val (.int (2 : Int32)), .val (.ref a2), .val (.int (2 : Int32)), .val (.int (3 : Int32)), .val (.int (2 : Int32)), .val (.int v6_9)] [(.int (2 : Int32)), (.ref a2)]))
  refine own_by (fun _ k => XS.iload X6.here hx rfl (hb hby d14_28) rfl k) ?_
  show own_Go _ _ _ _ (T6.setTop (mkF m 30 #[.val (.ref a1), .val (.int (2 : Int32)), .val (.ref a2), .val (.int (2 : Int32)), .val (.int (3 : Int32)), .val (.int (2 : Int32)), .val (.int v6_9)] [(.int v6_9), (.int (2 : Int32)), (.ref a2)]))
  refine own_by (fun _ k => XS.i2b X6.here hx rfl (hb hby d14_30) rfl k) ?_
  show own_Go _ _ _ _ (T6.setTop (mkF m 31 #[.val (.ref a1), .val (.int (2 : Int32)), .val (.ref a2), .val (.int (2 : Int32)), .val (.int (3 : Int32)), .val (.int (2 : Int32)), .val (.int v6_9)] [(.int (v6_9.toInt8.toInt32)), (.int (2 : Int32)), (.ref a2)]))
  refine own_bas X6 hx hZ e6 A6 2 (by decide) (by decide) (hb hby d14_31) ?_
  intro T10 h10 X10 e10 W10 A10
  have f11 := f7.other W10 Pne
  have f12 := f8.wr W10 (Or.inl (List.mem_of_getElem? (i := 0) rfl))
  have N10 := Fr.snoc X10 N6 Pg2
  have Z10 := own_size_wr W10 Z6
  obtain ⟨fn10, hfn10⟩ : ∃ gf_ : Nat → Int32, gf_ = own_upd fn6 2 (nar .byte (v6_9.toInt8.toInt32)) := ⟨_, rfl⟩
  rw [← hfn10] at A10
  show own_Go _ _ _ _ (T10.setTop (mkF m 32 #[.val (.ref a1), .val (.int (2 : Int32)), .val (.ref a2), .val (.int (2 : Int32)), .val (.int (3 : Int32)), .val (.int (2 : Int32)), .val (.int v6_9)] []))
  refine own_by (fun _ k => XS.iinc X10.here hx rfl (hb hby d14_32) rfl (l' := #[.val (.ref a1), .val (.int ((2 : Int32) + (1 : Int32))), .val (.ref a2), .val (.int (2 : Int32)), .val (.int (3 : Int32)), .val (.int (2 : Int32)), .val (.int v6_9)]) rfl k) ?_
  show own_Go _ _ _ _ (T10.setTop (mkF m 35 #[.val (.ref a1), .val (.int ((2 : Int32) + (1 : Int32))), .val (.ref a2), .val (.int (2 : Int32)), .val (.int (3 : Int32)), .val (.int (2 : Int32)), .val (.int v6_9)] []))
  rw [(by decide : ((2 : Int32) + (1 : Int32)) = (3 : Int32))]
  show own_Go _ _ _ _ (T10.setTop (mkF m 35 #[.val (.ref a1), .val (.int (3 : Int32)), .val (.ref a2), .val (.int (2 : Int32)), .val (.int (3 : Int32)), .val (.int (2 : Int32)), .val (.int v6_9)] []))
  refine own_by (fun _ k => XS.iinc X10.here hx rfl (hb hby d14_35) rfl (l' := #[.val (.ref a1), .val (.int (3 : Int32)), .val (.ref a2), .val (.int ((2 : Int32) + (1 : Int32))), .val (.int (3 : Int32)), .val (.int (2 : Int32)), .val (.int v6_9)]) rfl k) ?_
  show own_Go _ _ _ _ (T10.setTop (mkF m 38 #[.val (.ref a1), .val (.int (3 : Int32)), .val (.ref a2), .val (.int ((2 : Int32) + (1 : Int32))), .val (.int (3 : Int32)), .val (.int (2 : Int32)), .val (.int v6_9)] []))
  rw [(by decide : ((2 : Int32) + (1 : Int32)) = (3 : Int32))]
  show own_Go _ _ _ _ (T10.setTop (mkF m 38 #[.val (.ref a1), .val (.int (3 : Int32)), .val (.ref a2), .val (.int (3 : Int32)), .val (.int (3 : Int32)), .val (.int (2 : Int32)), .val (.int v6_9)] []))
  refine own_by (fun _ k => XS.iinc X10.here hx rfl (hb hby d14_38) rfl (l' := #[.val (.ref a1), .val (.int (3 : Int32)), .val (.ref a2), .val (.int (3 : Int32)), .val (.int (3 : Int32)), .val (.int ((2 : Int32) + (1 : Int32))), .val (.int v6_9)]) rfl k) ?_
  show own_Go _ _ _ _ (T10.setTop (mkF m 41 #[.val (.ref a1), .val (.int (3 : Int32)), .val (.ref a2), .val (.int (3 : Int32)), .val (.int (3 : Int32)), .val (.int ((2 : Int32) + (1 : Int32))), .val (.int v6_9)] []))
  rw [(by decide : ((2 : Int32) + (1 : Int32)) = (3 : Int32))]
  show own_Go _ _ _ _ (T10.setTop (mkF m 41 #[.val (.ref a1), .val (.int (3 : Int32)), .val (.ref a2), .val (.int (3 : Int32)), .val (.int (3 : Int32)), .val (.int (3 : Int32)), .val (.int v6_9)] []))
  refine own_by (fun _ k => XS.goto X10.here hx rfl (pc0 := 41) (pc' := 3) rfl (hb hby d14_41) (by decide) (by decide) k) ?_
  refine own_by (fun _ k => XS.iload X10.here hx rfl (hb hby d14_3) rfl k) ?_
  refine own_by (fun _ k => XS.iload X10.here hx rfl (hb hby d14_5) rfl k) ?_
  show own_Go _ _ _ _ (T10.setTop (mkF m 7 #[.val (.ref a1), .val (.int (3 : Int32)), .val (.ref a2), .val (.int (3 : Int32)), .val (.int (3 : Int32)), .val (.int (3 : Int32)), .val (.int v6_9)] [(.int (3 : Int32)), (.int (3 : Int32))]))
  refine own_by (fun _ k => XS.icmpYes X10.here hx rfl (pc0 := 7) (pc' := 44) rfl (hb hby d14_7) rfl (flt (by decide)).2.1 (by decide) (by decide) k) ?_
  refine own_by (fun _ k => XS.iload X10.here hx rfl (hb hby d14_44) rfl k) ?_
  show own_Go _ _ _ _ (T10.setTop (mkF m 46 #[.val (.ref a1), .val (.int (3 : Int32)), .val (.ref a2), .val (.int (3 : Int32)), .val (.int (3 : Int32)), .val (.int (3 : Int32)), .val (.int v6_9)] [(.int (3 : Int32))]))
  exact own_retI X10 hx Bd.notSynchronized e10 Bd.returns (hb hby d14_46) (⟨rfl, N10, f12, _, A10⟩) (by decide) (by decide)
set_option maxRecDepth 65536 in
set_option maxHeartbeats 40000000 in
theorem rm13_3 (l : Launch) (Z : State) (a0 : Array Value) (hw : ∀ d ∈ tables_1, d.before a0 Z = true) (ws : List Jvm.Cond) (a1 : Addr) (f : Nat → Int32) (h0 : Heap) (n0 : Nat) (Z0 : n0 ≤ h0.size) (PA1 : own_AI Z h0 a1 .char 3 f) (Pv0 : ¬ (255 : Int32) < f 0) (Pv1 : ¬ (255 : Int32) < f 1) (Pv2 : ¬ (255 : Int32) < f 2) :
    MetFree l (⟨"java/lang/StringUTF16", "compress", "([CII)[B"⟩ : MethodName) (head1 (Jvm.Cond.code (⟨"java/lang/StringUTF16", "compress", "([CII)[B"⟩ : MethodName) jdk_52_method_16_code 6 (some (.array .byte)) :: ws) ({ frames := 1, cells := 1, slots := 3, locals := 18 } : Room)) (fun a U => a = #[(.ref a1), (.int (0 : Int32)), (.int (3 : Int32))] ∧ Z.Warmed39 U.vm ∧ U.heap = h0) (fun _ _ _ _ _ => True) (fun _ U o U' => ∃ vv LL, o = .returned vv ∧ own_ap (fun v h L => ∃ bb : Addr, v = some (.ref bb) ∧ Fr n0 L ∧ Keep h0 h [] ∧ h0.size ≤ bb ∧ ∃ fy, own_AI Z h bb .byte 3 fy) vv U'.heap LL ∧ FrameEnd U o U' LL 1 3) := by
  refine MetFree.of_bodySF (plainFor_of_name pn_13) hisR ?_
  intro p e s m args below meth c s₁ Bd hml0 hP hK
  obtain ⟨rfl, hZ, hh⟩ := hP
  have hx := Bd.exec
  have hby := Bd.bytes
  have hml : c.maxLocals = 6 := hml0
  have hown : s.vm.findClass "java/lang/StringUTF16" = some m.cls := findClass_of_methodNamed Bd.named
  have hnm := (name_of_methodNamed Bd.named Bd.method).1
  have X0 : Stand p l e ({ frames := 1, cells := 1, slots := 3, locals := 18 } : Room) s m #[(.ref a1), (.int (0 : Int32)), (.int (3 : Int32))] below meth c s₁ [] 0 0 := Stand.of_body Bd
  have e0 : s₁.heap = h0 := by rw [← hh, Bd.state]; rfl
  have N0 := Fr.nil n0
  show own_Go p.tables e below (own_Q s (fun v h L => ∃ bb : Addr, v = some (.ref bb) ∧ Fr n0 L ∧ Keep h0 h [] ∧ h0.size ≤ bb ∧ ∃ fy, own_AI Z h bb .byte 3 fy) 1 3) (s₁.setTop (entryFrame m #[(.ref a1), (.int (0 : Int32)), (.int (3 : Int32))] 6))
  rw [show entryFrame m #[(.ref a1), (.int (0 : Int32)), (.int (3 : Int32))] 6 = mkF m 0 #[.val (.ref a1), .val (.int (0 : Int32)), .val (.int (3 : Int32)), .unset, .unset, .unset] [] from by first | (simp [entryFrame, mkF, argsToLocals, Value.category]; done) | rfl]
  show own_Go _ _ _ _ (s₁.setTop (mkF m 0 #[.val (.ref a1), .val (.int (0 : Int32)), .val (.int (3 : Int32)), .unset, .unset, .unset] []))
  refine own_by (fun _ k => XS.iloadN X0.here hx rfl (hb hby d13_0) rfl k) ?_
  show own_Go _ _ _ _ (s₁.setTop (mkF m 1 #[.val (.ref a1), .val (.int (0 : Int32)), .val (.int (3 : Int32)), .unset, .unset, .unset] [(.int (3 : Int32))]))
  refine own_newP X0 hx hZ (hw _ (List.mem_of_getElem? (i := 22) rfl)) e0 3 (by decide) 3 (by decide) (by decide) (by decide) (by decide) (hb hby d13_1) ?_
  intro T1 h1 X1 e1 E1 A1
  show own_Go _ _ _ _ (T1.setTop (mkF m 3 #[.val (.ref a1), .val (.int (0 : Int32)), .val (.int (3 : Int32)), .unset, .unset, .unset] [.ref h0.size]))
  obtain ⟨b1, g1⟩ : ∃ z, z = h0.size := ⟨_, rfl⟩
  rw [← g1] at A1
  refine own_gen g1.symm (fun z_ => T1.setTop (mkF m 3 #[.val (.ref a1), .val (.int (0 : Int32)), .val (.int (3 : Int32)), .unset, .unset, .unset] [.ref z_])) ?_
  have ne2 : a1 ≠ b1 := Nat.ne_of_lt (Nat.lt_of_lt_of_le PA1.lt (Nat.le_of_eq g1.symm))
  have ge1 : n0 ≤ b1 := Nat.le_trans Z0 (Nat.le_of_eq g1.symm)
  have nw1 : h0.size ≤ b1 := Nat.le_trans (Keep.refl h0 []).1 (Nat.le_of_eq g1.symm)
  have f3 := PA1.ext E1
  have f4 := (Keep.refl h0 []).ext E1
  have Z1 := Nat.le_trans Z0 E1.1
  have f5 : own_AI Z h1 b1 .byte 3 (fun _ => 0) := A1
  show own_Go _ _ _ _ (T1.setTop (mkF m 3 #[.val (.ref a1), .val (.int (0 : Int32)), .val (.int (3 : Int32)), .unset, .unset, .unset] [(.ref b1)]))
  refine own_by (fun _ k => XS.astoreN X1.here hx rfl (hb hby d13_3) rfl rfl (l' := #[.val (.ref a1), .val (.int (0 : Int32)), .val (.int (3 : Int32)), .val (.ref b1), .unset, .unset]) rfl k) ?_
  refine own_by (fun _ k => XS.aloadN X1.here hx rfl (hb hby d13_4) rfl rfl k) ?_
  refine own_by (fun _ k => XS.iloadN X1.here hx rfl (hb hby d13_5) rfl k) ?_
  show own_Go _ _ _ _ (T1.setTop (mkF m 6 #[.val (.ref a1), .val (.int (0 : Int32)), .val (.int (3 : Int32)), .val (.ref b1), .unset, .unset] [(.int (0 : Int32)), (.ref a1)]))
  refine own_by (fun _ k => XS.aloadN X1.here hx rfl (hb hby d13_6) rfl rfl k) ?_
  refine own_by (fun _ k => XS.iconst X1.here hx rfl (hb hby d13_7) k) ?_
  refine own_by (fun _ k => XS.iloadN X1.here hx rfl (hb hby d13_8) rfl k) ?_
  show own_Go _ _ _ _ (T1.setTop (mkF m 9 #[.val (.ref a1), .val (.int (0 : Int32)), .val (.int (3 : Int32)), .val (.ref b1), .unset, .unset] [(.int (3 : Int32)), (.int (0 : Int32)), (.ref b1), (.int (0 : Int32)), (.ref a1)]))
  refine own_callS X1 hx hZ hown (hw _ (List.mem_of_getElem? (i := 82) rfl)) (hw _ (List.mem_of_getElem? (i := 83) rfl)) (hw _ (List.mem_of_getElem? (i := 80) rfl)) (hw _ (List.mem_of_getElem? (i := 84) rfl)) (by decide) (rm14_3 l Z a0 hw [] a1 b1 f (fun _ => 0) h1 n0 Z1 f3 f5 ge1 ne2 Pv0 Pv1 Pv2) e1 (by rw [hml]; rfl) [(.ref a1), (.int (0 : Int32)), (.ref b1), (.int (0 : Int32)), (.int (3 : Int32))] [] rfl (lenOf own_pd13 rfl) rfl 0 (Nat.le_of_eq rfl) (by decide) (by decide) (Nat.le_of_ble_eq_true rfl) (Nat.le_of_ble_eq_true rfl) (hb hby d13_9) ?_
  intro T6 Lc6 v6 X6 hQ6
  obtain ⟨h6, e6⟩ : ∃ h, T6.heap = h := ⟨_, rfl⟩
  rw [e6] at hQ6
  obtain ⟨rfl, N6q, K6, fz6, AB6⟩ := hQ6
  have N6 := Fr.app N0 N6q
  have f7 := f3.keep K6 (ninS ne2 nin0)
  have f8 := f4.trans K6 (allS (P := fun x => x ∈ [] ∨ h0.size ≤ x) (Or.inr nw1) all0)
  have Z6 := Nat.le_trans Z1 K6.1
  show own_Go _ _ _ _ (T6.setTop (mkF m 12 #[.val (.ref a1), .val (.int (0 : Int32)), .val (.int (3 : Int32)), .val (.ref b1), .unset, .unset] [(.int (3 : Int32))]))
  refine own_by (fun _ k => XS.istore X6.here hx rfl (hb hby d13_12) rfl (l' := #[.val (.ref a1), .val (.int (0 : Int32)), .val (.int (3 : Int32)), .val (.ref b1), .val (.int (3 : Int32)), .unset]) rfl k) ?_
  refine own_by (fun _ k => XS.iload X6.here hx rfl (hb hby d13_14) rfl k) ?_
  refine own_by (fun _ k => XS.iloadN X6.here hx rfl (hb hby d13_16) rfl k) ?_
  show own_Go _ _ _ _ (T6.setTop (mkF m 17 #[.val (.ref a1), .val (.int (0 : Int32)), .val (.int (3 : Int32)), .val (.ref b1), .val (.int (3 : Int32)), .unset] [(.int (3 : Int32)), (.int (3 : Int32))]))
  refine own_by (fun _ k => XS.icmpYes X6.here hx rfl (pc0 := 17) (pc' := 57) rfl (hb hby d13_17) rfl (teq (by decide)).1 (by decide) (by decide) k) ?_
  refine own_by (fun _ k => XS.aloadN X6.here hx rfl (hb hby d13_57) rfl rfl k) ?_
  show own_Go _ _ _ _ (T6.setTop (mkF m 58 #[.val (.ref a1), .val (.int (0 : Int32)), .val (.int (3 : Int32)), .val (.ref b1), .val (.int (3 : Int32)), .unset] [(.ref b1)]))
  exact own_retA X6 hx Bd.notSynchronized e6 Bd.returns rfl rfl rfl (hb hby d13_58) (⟨_, rfl, N6, f8, nw1, _, AB6⟩) (by decide) (by decide)
set_option maxRecDepth 65536 in
set_option maxHeartbeats 40000000 in
theorem rm15_3 (l : Launch) (Z : State) (a0 : Array Value) (hw : ∀ d ∈ tables_1, d.before a0 Z = true) (ws : List Jvm.Cond) (a1 : Addr) (f : Nat → Int32) (h0 : Heap) (n0 : Nat) (Z0 : n0 ≤ h0.size) (PA1 : own_AI Z h0 a1 .byte 3 f) :
    MetFree l (⟨"java/lang/StringUTF16", "coderFromArrayLen", "([BI)B"⟩ : MethodName) (head1 (Jvm.Cond.code (⟨"java/lang/StringUTF16", "coderFromArrayLen", "([BI)B"⟩ : MethodName) jdk_52_method_15_code 2 (some .byte) :: ws) ({ frames := 0, cells := 0, slots := 0, locals := 0 } : Room)) (fun a U => a = #[(.ref a1), (.int (3 : Int32))] ∧ Z.Warmed39 U.vm ∧ U.heap = h0) (fun _ _ _ _ _ => True) (fun _ U o U' => ∃ vv LL, o = .returned vv ∧ own_ap (fun v h L => v = some (.int 0) ∧ Fr n0 L ∧ h = h0) vv U'.heap LL ∧ FrameEnd U o U' LL 0 0) := by
  refine MetFree.of_bodySF (plainFor_of_name pn_15) hisR ?_
  intro p e s m args below meth c s₁ Bd hml0 hP hK
  obtain ⟨rfl, hZ, hh⟩ := hP
  have hx := Bd.exec
  have hby := Bd.bytes
  have hml : c.maxLocals = 2 := hml0
  have hown : s.vm.findClass "java/lang/StringUTF16" = some m.cls := findClass_of_methodNamed Bd.named
  have hnm := (name_of_methodNamed Bd.named Bd.method).1
  have X0 : Stand p l e ({ frames := 0, cells := 0, slots := 0, locals := 0 } : Room) s m #[(.ref a1), (.int (3 : Int32))] below meth c s₁ [] 0 0 := Stand.of_body Bd
  have e0 : s₁.heap = h0 := by rw [← hh, Bd.state]; rfl
  have N0 := Fr.nil n0
  show own_Go p.tables e below (own_Q s (fun v h L => v = some (.int 0) ∧ Fr n0 L ∧ h = h0) 0 0) (s₁.setTop (entryFrame m #[(.ref a1), (.int (3 : Int32))] 2))
  rw [show entryFrame m #[(.ref a1), (.int (3 : Int32))] 2 = mkF m 0 #[.val (.ref a1), .val (.int (3 : Int32))] [] from by first | (simp [entryFrame, mkF, argsToLocals, Value.category]; done) | rfl]
  show own_Go _ _ _ _ (s₁.setTop (mkF m 0 #[.val (.ref a1), .val (.int (3 : Int32))] []))
  refine own_by (fun _ k => XS.iloadN X0.here hx rfl (hb hby d15_0) rfl k) ?_
  refine own_by (fun _ k => XS.aloadN X0.here hx rfl (hb hby d15_1) rfl rfl k) ?_
  show own_Go _ _ _ _ (s₁.setTop (mkF m 2 #[.val (.ref a1), .val (.int (3 : Int32))] [(.ref a1), (.int (3 : Int32))]))
  refine own_by (fun _ k => own_len X0 hx hZ e0 PA1 (3 : Int32) (by decide) (hb hby d15_2) k) ?_
  show own_Go _ _ _ _ (s₁.setTop (mkF m 3 #[.val (.ref a1), .val (.int (3 : Int32))] [(.int (3 : Int32)), (.int (3 : Int32))]))
  refine own_by (fun _ k => XS.isub X0.here hx rfl (hb hby d15_3) rfl k) ?_
  show own_Go _ _ _ _ (s₁.setTop (mkF m 4 #[.val (.ref a1), .val (.int (3 : Int32))] [(.int ((3 : Int32) - (3 : Int32)))]))
  rw [(by decide : ((3 : Int32) - (3 : Int32)) = (0 : Int32))]
  refine own_by (fun _ k => XS.bipush X0.here hx rfl (hb hby d15_4) k) ?_
  show own_Go _ _ _ _ (s₁.setTop (mkF m 6 #[.val (.ref a1), .val (.int (3 : Int32))] [(.int (31 : Int32)), (.int (0 : Int32))]))
  refine own_by (fun _ k => XS.iushr X0.here hx rfl (hb hby d15_6) rfl k) ?_
  show own_Go _ _ _ _ (s₁.setTop (mkF m 7 #[.val (.ref a1), .val (.int (3 : Int32))] [(.int (((0 : Int32).toUInt32 >>> ((31 : Int32) &&& 31).toUInt32).toInt32))]))
  rw [(by decide : (((0 : Int32).toUInt32 >>> ((31 : Int32) &&& 31).toUInt32).toInt32) = (0 : Int32))]
  show own_Go _ _ _ _ (s₁.setTop (mkF m 7 #[.val (.ref a1), .val (.int (3 : Int32))] [(.int (0 : Int32))]))
  refine own_by (fun _ k => XS.i2b X0.here hx rfl (hb hby d15_7) rfl k) ?_
  show own_Go _ _ _ _ (s₁.setTop (mkF m 8 #[.val (.ref a1), .val (.int (3 : Int32))] [(.int ((0 : Int32).toInt8.toInt32))]))
  rw [(by decide : ((0 : Int32).toInt8.toInt32) = (0 : Int32))]
  show own_Go _ _ _ _ (s₁.setTop (mkF m 8 #[.val (.ref a1), .val (.int (3 : Int32))] [(.int (0 : Int32))]))
  exact own_retN X0 hx Bd.notSynchronized e0 Bd.returns (by simp) (hb hby d15_8) (⟨rfl, N0, rfl⟩) (by decide) (by decide)
set_option maxRecDepth 65536 in
set_option maxHeartbeats 40000000 in
theorem rm3_3 (l : Launch) (Z : State) (a0 : Array Value) (hw : ∀ d ∈ tables_1, d.before a0 Z = true) (ws : List Jvm.Cond) (a1 : Addr) (b1 : Addr) (cs : Int32) (f : Nat → Int32) (h0 : Heap) (n0 : Nat) (Z0 : n0 ≤ h0.size) (PE : Exa Z h0 a1 "java/lang/String") (PF1 : Fld Z h0 a1 "java/lang/String" "value" "[B" .null) (PF2 : Fld Z h0 a1 "java/lang/String" "coder" "B" (.int 0)) (Pg1 : n0 ≤ a1) (PS : Sta Z h0 "java/lang/String" "COMPACT_STRINGS" "Z" (.int cs)) (Pcs : ¬ cs = 0) (PA1 : own_AI Z h0 b1 .char 3 f) (Pne : a1 ≠ b1) (Pv0 : ¬ (255 : Int32) < f 0) (Pv1 : ¬ (255 : Int32) < f 1) (Pv2 : ¬ (255 : Int32) < f 2) :
    MetFree l (⟨"java/lang/String", "<init>", "([CIILjava/lang/Void;)V"⟩ : MethodName) (head1 (Jvm.Cond.code (⟨"java/lang/String", "<init>", "([CIILjava/lang/Void;)V"⟩ : MethodName) jdk_42_method_149_code 6 none :: ws) ({ frames := 2, cells := 1, slots := 3, locals := 40 } : Room)) (fun a U => a = #[(.ref a1), (.ref b1), (.int (0 : Int32)), (.int (3 : Int32)), .null] ∧ Z.Warmed39 U.vm ∧ U.heap = h0) (fun _ _ _ _ _ => True) (fun _ U o U' => ∃ vv LL, o = .returned vv ∧ own_ap (fun v h L => v = none ∧ Fr n0 L ∧ Keep h0 h [a1]) vv U'.heap LL ∧ FrameEnd U o U' LL 1 3) := by
  refine MetFree.of_bodySF (plainFor_of_name pn_3) hisR ?_
  intro p e s m args below meth c s₁ Bd hml0 hP hK
  obtain ⟨rfl, hZ, hh⟩ := hP
  have hx := Bd.exec
  have hby := Bd.bytes
  have hml : c.maxLocals = 6 := hml0
  have hown : s.vm.findClass "java/lang/String" = some m.cls := findClass_of_methodNamed Bd.named
  have hnm := (name_of_methodNamed Bd.named Bd.method).1
  have X0 : Stand p l e ({ frames := 2, cells := 1, slots := 3, locals := 40 } : Room) s m #[(.ref a1), (.ref b1), (.int (0 : Int32)), (.int (3 : Int32)), .null] below meth c s₁ [] 0 0 := Stand.of_body Bd
  have e0 : s₁.heap = h0 := by rw [← hh, Bd.state]; rfl
  have N0 := Fr.nil n0
  show own_Go p.tables e below (own_Q s (fun v h L => v = none ∧ Fr n0 L ∧ Keep h0 h [a1]) 1 3) (s₁.setTop (entryFrame m #[(.ref a1), (.ref b1), (.int (0 : Int32)), (.int (3 : Int32)), .null] 6))
  rw [show entryFrame m #[(.ref a1), (.ref b1), (.int (0 : Int32)), (.int (3 : Int32)), .null] 6 = mkF m 0 #[.val (.ref a1), .val (.ref b1), .val (.int (0 : Int32)), .val (.int (3 : Int32)), .val .null, .unset] [] from by first | (simp [entryFrame, mkF, argsToLocals, Value.category]; done) | rfl]
  show own_Go _ _ _ _ (s₁.setTop (mkF m 0 #[.val (.ref a1), .val (.ref b1), .val (.int (0 : Int32)), .val (.int (3 : Int32)), .val .null, .unset] []))
  refine own_by (fun _ k => XS.aloadN X0.here hx rfl (hb hby d3_0) rfl rfl k) ?_
  show own_Go _ _ _ _ (s₁.setTop (mkF m 1 #[.val (.ref a1), .val (.ref b1), .val (.int (0 : Int32)), .val (.int (3 : Int32)), .val .null, .unset] [(.ref a1)]))
  obtain ⟨T1, X1, e1, st1⟩ := initO X0 hx hZ hown (hw _ (List.mem_of_getElem? (i := 18) rfl)) (hw _ (List.mem_of_getElem? (i := 19) rfl)) (hw _ (List.mem_of_getElem? (i := 20) rfl)) e0 (g := (mkF m 1 #[.val (.ref a1), .val (.ref b1), .val (.int (0 : Int32)), .val (.int (3 : Int32)), .val .null, .unset] [(.ref a1)])) rfl (by rw [hml]; rfl) rfl (hb hby d3_1) (by decide) (W := 0) (by show 2 * 0 + _ ≤ _; exact Nat.le_of_eq rfl) (by decide)
  refine own_by st1 ?_
  refine own_by (fun _ k => XS.iloadN X1.here hx rfl (hb hby d3_4) rfl k) ?_
  show own_Go _ _ _ _ (T1.setTop (mkF m 5 #[.val (.ref a1), .val (.ref b1), .val (.int (0 : Int32)), .val (.int (3 : Int32)), .val .null, .unset] [(.int (3 : Int32))]))
  refine own_by (fun _ k => XS.ifYes X1.here hx rfl (pc0 := 5) (pc' := 27) rfl (hb hby d3_5) rfl ((if0 _ _).trans (feq (by decide)).2) (by decide) (by decide) k) ?_
  show own_Go _ _ _ _ (T1.setTop (mkF m 27 #[.val (.ref a1), .val (.ref b1), .val (.int (0 : Int32)), .val (.int (3 : Int32)), .val .null, .unset] []))
  obtain ⟨T2, X2, e2, st2⟩ := getS2 X1 hx hZ hown (host := "") (Or.inl (hw _ (List.mem_of_getElem? (i := 32) rfl))) Via.refl e1 PS (g := (mkF m 27 #[.val (.ref a1), .val (.ref b1), .val (.int (0 : Int32)), .val (.int (3 : Int32)), .val .null, .unset] [])) rfl (hb hby d3_27)
  refine own_by st2 ?_
  show own_Go _ _ _ _ (T2.setTop (mkF m 30 #[.val (.ref a1), .val (.ref b1), .val (.int (0 : Int32)), .val (.int (3 : Int32)), .val .null, .unset] [(.int cs)]))
  refine own_by (fun _ k => XS.ifNo X2.here hx rfl (hb hby d3_30) rfl ((if0 _ _).trans (feq Pcs).1) k) ?_
  refine own_by (fun _ k => XS.aloadN X2.here hx rfl (hb hby d3_33) rfl rfl k) ?_
  refine own_by (fun _ k => XS.iloadN X2.here hx rfl (hb hby d3_34) rfl k) ?_
  show own_Go _ _ _ _ (T2.setTop (mkF m 35 #[.val (.ref a1), .val (.ref b1), .val (.int (0 : Int32)), .val (.int (3 : Int32)), .val .null, .unset] [(.int (0 : Int32)), (.ref b1)]))
  refine own_by (fun _ k => XS.iloadN X2.here hx rfl (hb hby d3_35) rfl k) ?_
  show own_Go _ _ _ _ (T2.setTop (mkF m 36 #[.val (.ref a1), .val (.ref b1), .val (.int (0 : Int32)), .val (.int (3 : Int32)), .val .null, .unset] [(.int (3 : Int32)), (.int (0 : Int32)), (.ref b1)]))
  refine own_callS X2 hx hZ hown (hw _ (List.mem_of_getElem? (i := 78) rfl)) (hw _ (List.mem_of_getElem? (i := 79) rfl)) (hw _ (List.mem_of_getElem? (i := 80) rfl)) (hw _ (List.mem_of_getElem? (i := 81) rfl)) (by decide) (rm13_3 l Z a0 hw [] b1 f h0 n0 Z0 PA1 Pv0 Pv1 Pv2) e2 (by rw [hml]; rfl) [(.ref b1), (.int (0 : Int32)), (.int (3 : Int32))] [] rfl (lenOf own_pd12 rfl) rfl 0 (Nat.le_of_eq rfl) (by decide) (by decide) (Nat.le_of_ble_eq_true rfl) (Nat.le_of_ble_eq_true rfl) (hb hby d3_36) ?_
  intro T3 Lc3 v3 X3 hQ3
  obtain ⟨h3, e3⟩ : ∃ h, T3.heap = h := ⟨_, rfl⟩
  rw [e3] at hQ3
  obtain ⟨bb3, rfl, N3q, K3, -, fz3, AB3⟩ := hQ3
  have N3 := Fr.app N0 N3q
  have f4 := PE.keep K3
  have f5 := PF1.keep K3 nin0
  have f6 := PF2.keep K3 nin0
  have f7 := (Keep.refl h0 [a1]).trans K3 all0
  have f8 := own_sta_keep PS K3 ns0
  have f9 := PA1.keep K3 nin0
  have Z3 := Nat.le_trans Z0 K3.1
  show own_Go _ _ _ _ (T3.setTop (mkF m 39 #[.val (.ref a1), .val (.ref b1), .val (.int (0 : Int32)), .val (.int (3 : Int32)), .val .null, .unset] [(.ref bb3)]))
  refine own_by (fun _ k => XS.astore X3.here hx rfl (hb hby d3_39) rfl rfl (l' := #[.val (.ref a1), .val (.ref b1), .val (.int (0 : Int32)), .val (.int (3 : Int32)), .val .null, .val (.ref bb3)]) rfl k) ?_
  refine own_by (fun _ k => XS.aloadN X3.here hx rfl (hb hby d3_41) rfl rfl k) ?_
  refine own_by (fun _ k => XS.aload X3.here hx rfl (hb hby d3_42) rfl rfl k) ?_
  show own_Go _ _ _ _ (T3.setTop (mkF m 44 #[.val (.ref a1), .val (.ref b1), .val (.int (0 : Int32)), .val (.int (3 : Int32)), .val .null, .val (.ref bb3)] [(.ref bb3), (.ref a1)]))
  refine own_by (fun _ k => XS.iloadN X3.here hx rfl (hb hby d3_44) rfl k) ?_
  show own_Go _ _ _ _ (T3.setTop (mkF m 45 #[.val (.ref a1), .val (.ref b1), .val (.int (0 : Int32)), .val (.int (3 : Int32)), .val .null, .val (.ref bb3)] [(.int (3 : Int32)), (.ref bb3), (.ref a1)]))
  refine own_callS X3 hx hZ hown (hw _ (List.mem_of_getElem? (i := 85) rfl)) (hw _ (List.mem_of_getElem? (i := 86) rfl)) (hw _ (List.mem_of_getElem? (i := 80) rfl)) (hw _ (List.mem_of_getElem? (i := 87) rfl)) (by decide) (rm15_3 l Z a0 hw [] bb3 fz3 h3 n0 Z3 AB3) e3 (by rw [hml]; rfl) [(.ref bb3), (.int (3 : Int32))] [(.ref a1)] rfl (lenOf own_pd14 rfl) rfl 1 (Nat.le_of_eq rfl) (by decide) (by decide) (Nat.le_of_ble_eq_true rfl) (Nat.le_of_ble_eq_true rfl) (hb hby d3_45) ?_
  intro T10 Lc10 v10 X10 hQ10
  obtain ⟨rfl, N10q, e10⟩ := hQ10
  have N10 := Fr.app N3 N10q
  show own_Go _ _ _ _ (T10.setTop (mkF m 48 #[.val (.ref a1), .val (.ref b1), .val (.int (0 : Int32)), .val (.int (3 : Int32)), .val .null, .val (.ref bb3)] [(.int (0 : Int32)), (.ref a1)]))
  obtain ⟨T11, h11, X11, e11, W11, st11⟩ := putFN X10 hx hZ hown (hw _ (List.mem_of_getElem? (i := 28) rfl)) Via.refl e10 f6 f4 (Or.inr ⟨(hw _ (List.mem_of_getElem? (i := 24) rfl)), rfl, hnm⟩) (hw _ (List.mem_of_getElem? (i := 8) rfl)) (ty := .byte) (v' := (.int (nar .byte (0 : Int32)))) (by decide) rfl (fits_nar_byte _) (g := (mkF m 48 #[.val (.ref a1), .val (.ref b1), .val (.int (0 : Int32)), .val (.int (3 : Int32)), .val .null, .val (.ref bb3)] [(.int (0 : Int32)), (.ref a1)])) rfl rfl (hb hby d3_48)
  refine own_by st11 ?_
  have f12 := f6.same W11
  have f13 := f4.wr W11
  have f14 := f5.other W11 (Or.inr (slot_ne (Or.inr (hw _ (List.mem_of_getElem? (i := 23) rfl))) (Or.inr (hw _ (List.mem_of_getElem? (i := 24) rfl))) (by decide) (t := (.array .byte)) (t' := .byte) (by decide) (by decide)))
  have f15 := f7.wr W11 (Or.inl (List.mem_of_getElem? (i := 0) rfl))
  have f16 := f8.wr W11
  have f17 := f9.other W11 (Ne.symm Pne)
  have N11 := Fr.snoc X11 N10 Pg1
  have Z11 := own_size_wr W11 Z3
  show own_Go _ _ _ _ (T11.setTop (mkF m 51 #[.val (.ref a1), .val (.ref b1), .val (.int (0 : Int32)), .val (.int (3 : Int32)), .val .null, .val (.ref bb3)] []))
  refine own_by (fun _ k => XS.aloadN X11.here hx rfl (hb hby d3_51) rfl rfl k) ?_
  refine own_by (fun _ k => XS.aload X11.here hx rfl (hb hby d3_52) rfl rfl k) ?_
  show own_Go _ _ _ _ (T11.setTop (mkF m 54 #[.val (.ref a1), .val (.ref b1), .val (.int (0 : Int32)), .val (.int (3 : Int32)), .val .null, .val (.ref bb3)] [(.ref bb3), (.ref a1)]))
  obtain ⟨T18, h18, X18, e18, W18, st18⟩ := putF X11 hx hZ hown (host := "") (Or.inl (hw _ (List.mem_of_getElem? (i := 27) rfl))) Via.refl e11 f14 f13 (Or.inr ⟨(hw _ (List.mem_of_getElem? (i := 23) rfl)), rfl, hnm⟩) (hw _ (List.mem_of_getElem? (i := 8) rfl)) (ty := (.array .byte)) (by decide) rfl rfl (g := (mkF m 54 #[.val (.ref a1), .val (.ref b1), .val (.int (0 : Int32)), .val (.int (3 : Int32)), .val .null, .val (.ref bb3)] [(.ref bb3), (.ref a1)])) rfl rfl (hb hby d3_54)
  refine own_by st18 ?_
  have f19 := f14.same W18
  have f20 := f13.wr W18
  have f21 := f12.other W18 (Or.inr (slot_ne (Or.inr (hw _ (List.mem_of_getElem? (i := 24) rfl))) (Or.inr (hw _ (List.mem_of_getElem? (i := 23) rfl))) (by decide) (t := .byte) (t' := (.array .byte)) (by decide) (by decide)))
  have f22 := f15.wr W18 (Or.inl (List.mem_of_getElem? (i := 0) rfl))
  have f23 := f16.wr W18
  have f24 := f17.other W18 (Ne.symm Pne)
  have N18 := Fr.snoc X18 N11 Pg1
  have Z18 := own_size_wr W18 Z11
  show own_Go _ _ _ _ (T18.setTop (mkF m 57 #[.val (.ref a1), .val (.ref b1), .val (.int (0 : Int32)), .val (.int (3 : Int32)), .val .null, .val (.ref bb3)] []))
  exact own_retV X18 hx Bd.notSynchronized e18 Bd.returns (hb hby d3_57) (⟨rfl, N18, f22⟩) (by decide) (by decide)
set_option maxRecDepth 65536 in
set_option maxHeartbeats 40000000 in
theorem rm2_3 (l : Launch) (Z : State) (a0 : Array Value) (hw : ∀ d ∈ tables_1, d.before a0 Z = true) (ws : List Jvm.Cond) (a1 : Addr) (b1 : Addr) (cs : Int32) (f : Nat → Int32) (h0 : Heap) (n0 : Nat) (Z0 : n0 ≤ h0.size) (PE : Exa Z h0 a1 "java/lang/String") (PF1 : Fld Z h0 a1 "java/lang/String" "value" "[B" .null) (PF2 : Fld Z h0 a1 "java/lang/String" "coder" "B" (.int 0)) (Pg1 : n0 ≤ a1) (PS : Sta Z h0 "java/lang/String" "COMPACT_STRINGS" "Z" (.int cs)) (Pcs : ¬ cs = 0) (PA1 : own_AI Z h0 b1 .char 3 f) (Pne : a1 ≠ b1) (Pv0 : ¬ (255 : Int32) < f 0) (Pv1 : ¬ (255 : Int32) < f 1) (Pv2 : ¬ (255 : Int32) < f 2) :
    MetFree l (⟨"java/lang/String", "<init>", "([C)V"⟩ : MethodName) (head1 (Jvm.Cond.code (⟨"java/lang/String", "<init>", "([C)V"⟩ : MethodName) jdk_42_method_3_code 2 none :: ws) ({ frames := 3, cells := 1, slots := 3, locals := 60 } : Room)) (fun a U => a = #[(.ref a1), (.ref b1)] ∧ Z.Warmed39 U.vm ∧ U.heap = h0) (fun _ _ _ _ _ => True) (fun _ U o U' => ∃ vv LL, o = .returned vv ∧ own_ap (fun v h L => v = none ∧ Fr n0 L ∧ Keep h0 h [a1]) vv U'.heap LL ∧ FrameEnd U o U' LL 1 3) := by
  refine MetFree.of_bodySF (plainFor_of_name pn_2) hisR ?_
  intro p e s m args below meth c s₁ Bd hml0 hP hK
  obtain ⟨rfl, hZ, hh⟩ := hP
  have hx := Bd.exec
  have hby := Bd.bytes
  have hml : c.maxLocals = 2 := hml0
  have hown : s.vm.findClass "java/lang/String" = some m.cls := findClass_of_methodNamed Bd.named
  have hnm := (name_of_methodNamed Bd.named Bd.method).1
  have X0 : Stand p l e ({ frames := 3, cells := 1, slots := 3, locals := 60 } : Room) s m #[(.ref a1), (.ref b1)] below meth c s₁ [] 0 0 := Stand.of_body Bd
  have e0 : s₁.heap = h0 := by rw [← hh, Bd.state]; rfl
  have N0 := Fr.nil n0
  show own_Go p.tables e below (own_Q s (fun v h L => v = none ∧ Fr n0 L ∧ Keep h0 h [a1]) 1 3) (s₁.setTop (entryFrame m #[(.ref a1), (.ref b1)] 2))
  rw [show entryFrame m #[(.ref a1), (.ref b1)] 2 = mkF m 0 #[.val (.ref a1), .val (.ref b1)] [] from by first | (simp [entryFrame, mkF, argsToLocals, Value.category]; done) | rfl]
  show own_Go _ _ _ _ (s₁.setTop (mkF m 0 #[.val (.ref a1), .val (.ref b1)] []))
  refine own_by (fun _ k => XS.aloadN X0.here hx rfl (hb hby d2_0) rfl rfl k) ?_
  refine own_by (fun _ k => XS.aloadN X0.here hx rfl (hb hby d2_1) rfl rfl k) ?_
  refine own_by (fun _ k => XS.iconst X0.here hx rfl (hb hby d2_2) k) ?_
  show own_Go _ _ _ _ (s₁.setTop (mkF m 3 #[.val (.ref a1), .val (.ref b1)] [(.int (0 : Int32)), (.ref b1), (.ref a1)]))
  refine own_by (fun _ k => XS.aloadN X0.here hx rfl (hb hby d2_3) rfl rfl k) ?_
  show own_Go _ _ _ _ (s₁.setTop (mkF m 4 #[.val (.ref a1), .val (.ref b1)] [(.ref b1), (.int (0 : Int32)), (.ref b1), (.ref a1)]))
  refine own_by (fun _ k => own_len X0 hx hZ e0 PA1 (3 : Int32) (by decide) (hb hby d2_4) k) ?_
  show own_Go _ _ _ _ (s₁.setTop (mkF m 5 #[.val (.ref a1), .val (.ref b1)] [(.int (3 : Int32)), (.int (0 : Int32)), (.ref b1), (.ref a1)]))
  refine own_by (fun _ k => XS.aconstNull X0.here hx rfl (hb hby d2_5) k) ?_
  show own_Go _ _ _ _ (s₁.setTop (mkF m 6 #[.val (.ref a1), .val (.ref b1)] [.null, (.int (3 : Int32)), (.int (0 : Int32)), (.ref b1), (.ref a1)]))
  refine own_callI X0 hx hZ hown rfl (hw _ (List.mem_of_getElem? (i := 14) rfl)) (hw _ (List.mem_of_getElem? (i := 15) rfl)) (hw _ (List.mem_of_getElem? (i := 9) rfl)) (hw _ (List.mem_of_getElem? (i := 17) rfl)) (by decide) (rm3_3 l Z a0 hw [] a1 b1 cs f h0 n0 Z0 PE PF1 PF2 Pg1 PS Pcs PA1 Pne Pv0 Pv1 Pv2) e0 (by rw [hml]; rfl) a1 [(.ref b1), (.int (0 : Int32)), (.int (3 : Int32)), .null] [] rfl (lenOf own_pd3 rfl) rfl 0 (Nat.le_of_eq rfl) (by decide) (by decide) (Nat.le_of_ble_eq_true rfl) (Nat.le_of_ble_eq_true rfl) (hb hby d2_6) ?_
  intro T1 Lc1 v1 X1 hQ1
  obtain ⟨h1, e1⟩ : ∃ h, T1.heap = h := ⟨_, rfl⟩
  rw [e1] at hQ1
  obtain ⟨rfl, N1q, K1⟩ := hQ1
  have N1 := Fr.app N0 N1q
  have f2 := PE.keep K1
  have f5 := (Keep.refl h0 [a1]).trans K1 (allS (P := fun x => x ∈ [a1] ∨ h0.size ≤ x) (Or.inl (List.mem_of_getElem? (i := 0) rfl)) all0)
  have f6 := own_sta_keep PS K1 (nsS PE.nostat ns0)
  have f7 := PA1.keep K1 (ninS (Ne.symm Pne) nin0)
  have Z1 := Nat.le_trans Z0 K1.1
  show own_Go _ _ _ _ (T1.setTop (mkF m 9 #[.val (.ref a1), .val (.ref b1)] []))
  exact own_retV X1 hx Bd.notSynchronized e1 Bd.returns (hb hby d2_9) (⟨rfl, N1, f5⟩) (by decide) (by decide)
set_option maxRecDepth 65536 in
set_option maxHeartbeats 40000000 in
theorem rm3_0 (l : Launch) (Z : State) (a0 : Array Value) (hw : ∀ d ∈ tables_1, d.before a0 Z = true) (ws : List Jvm.Cond) (a1 : Addr) (b1 : Addr)  (h0 : Heap) (n0 : Nat) (Z0 : n0 ≤ h0.size) (PE : Exa Z h0 a1 "java/lang/String") (PF1 : Fld Z h0 a1 "java/lang/String" "value" "[B" .null) (PF2 : Fld Z h0 a1 "java/lang/String" "coder" "B" (.int 0)) (Pg1 : n0 ≤ a1) (Pk : ∀ (b : Addr) (cl : Cell), Z.heap[b]? = some cl → h0[b]? = some cl) (Ph : Jvm.Lit.constHeld Z "java/lang/String" 7) (Pc : Jvm.Lit.compactW.before a0 Z = true) :
    MetFree l (⟨"java/lang/String", "<init>", "([CIILjava/lang/Void;)V"⟩ : MethodName) (head1 (Jvm.Cond.code (⟨"java/lang/String", "<init>", "([CIILjava/lang/Void;)V"⟩ : MethodName) jdk_42_method_149_code 6 none :: ws) ({ frames := 1, cells := 2, slots := 4, locals := 12 } : Room)) (fun a U => a = #[(.ref a1), (.ref b1), (.int (0 : Int32)), (.int (0 : Int32)), .null] ∧ Z.Warmed39 U.vm ∧ U.heap = h0 ∧ U.vm.interned = Z.vm.interned) (fun _ _ _ _ _ => True) (fun _ U o U' => ∃ vv LL, o = .returned vv ∧ own_ap (fun v h L => v = none ∧ Fr n0 L ∧ Keep h0 h [a1]) vv U'.heap LL ∧ ReturnedEndW U o U' LL 2 4) := by
  refine MetFree.of_bodySF (plainFor_of_name pn_3) hisR ?_
  intro p e s m args below meth c s₁ Bd hml0 hP hK
  obtain ⟨rfl, hZ, hh, I0⟩ := hP
  have hx := Bd.exec
  have hby := Bd.bytes
  have hml : c.maxLocals = 6 := hml0
  have hown : s.vm.findClass "java/lang/String" = some m.cls := findClass_of_methodNamed Bd.named
  have hnm := (name_of_methodNamed Bd.named Bd.method).1
  have X0 : Stand p l e ({ frames := 1, cells := 2, slots := 4, locals := 12 } : Room) (s.setVm s.vm) m #[(.ref a1), (.ref b1), (.int (0 : Int32)), (.int (0 : Int32)), .null] below meth c s₁ [] 0 0 := Stand.of_body Bd
  have e0 : s₁.heap = h0 := by rw [← hh, Bd.state]; rfl
  have N0 := Fr.nil n0
  have hZ : Z.Warmed39 (s.setVm s.vm).vm := hZ
  have hown : (s.setVm s.vm).vm.findClass "java/lang/String" = some m.cls := hown
  have hS0 : s.Since s.vm 0 := (State.WarmedH.refl s).since 0
  have k0 : 0 ≤ h0.size := Nat.zero_le _
  show own_Go p.tables e below (own_QW s (fun v h L => v = none ∧ Fr n0 L ∧ Keep h0 h [a1]) 2 4) (s₁.setTop (entryFrame m #[(.ref a1), (.ref b1), (.int (0 : Int32)), (.int (0 : Int32)), .null] 6))
  rw [show entryFrame m #[(.ref a1), (.ref b1), (.int (0 : Int32)), (.int (0 : Int32)), .null] 6 = mkF m 0 #[.val (.ref a1), .val (.ref b1), .val (.int (0 : Int32)), .val (.int (0 : Int32)), .val .null, .unset] [] from by first | (simp [entryFrame, mkF, argsToLocals, Value.category]; done) | rfl]
  show own_Go _ _ _ _ (s₁.setTop (mkF m 0 #[.val (.ref a1), .val (.ref b1), .val (.int (0 : Int32)), .val (.int (0 : Int32)), .val .null, .unset] []))
  refine own_by (fun _ k => XS.aloadN X0.here hx rfl (hb hby d3_0) rfl rfl k) ?_
  show own_Go _ _ _ _ (s₁.setTop (mkF m 1 #[.val (.ref a1), .val (.ref b1), .val (.int (0 : Int32)), .val (.int (0 : Int32)), .val .null, .unset] [(.ref a1)]))
  obtain ⟨T1, X1, e1, st1⟩ := initO X0 hx hZ hown (hw _ (List.mem_of_getElem? (i := 18) rfl)) (hw _ (List.mem_of_getElem? (i := 19) rfl)) (hw _ (List.mem_of_getElem? (i := 20) rfl)) e0 (g := (mkF m 1 #[.val (.ref a1), .val (.ref b1), .val (.int (0 : Int32)), .val (.int (0 : Int32)), .val .null, .unset] [(.ref a1)])) rfl (by rw [hml]; rfl) rfl (hb hby d3_1) (by decide) (W := 0) (by show 2 * 0 + _ ≤ _; exact Nat.le_of_eq rfl) (by decide)
  refine own_by st1 ?_
  refine own_by (fun _ k => XS.iloadN X1.here hx rfl (hb hby d3_4) rfl k) ?_
  show own_Go _ _ _ _ (T1.setTop (mkF m 5 #[.val (.ref a1), .val (.ref b1), .val (.int (0 : Int32)), .val (.int (0 : Int32)), .val .null, .unset] [(.int (0 : Int32))]))
  refine own_by (fun _ k => XS.ifNo X1.here hx rfl (hb hby d3_5) rfl ((if0 _ _).trans (teq (by decide)).2) k) ?_
  refine own_by (fun _ k => XS.aloadN X1.here hx rfl (hb hby d3_8) rfl rfl k) ?_
  show own_Go _ _ _ _ (T1.setTop (mkF m 9 #[.val (.ref a1), .val (.ref b1), .val (.int (0 : Int32)), .val (.int (0 : Int32)), .val .null, .unset] [(.ref a1)]))
  refine own_ldcV X1 hx hZ hown (hw _ (List.mem_of_getElem? (i := 21) rfl)) (own_wS hw) e1 hS0 k0 (Fr.nil _) (fun b cl q => by rw [hh]; exact Pk b cl q) I0 Ph Pc [] 0 ⟨by decide, by decide⟩ (by decide) (by decide) (hb hby d3_9) 0 (by decide) (by decide) (by decide) (by decide) ?_
  intro b2 T2 h2 kk2 bv2 X2 e2 E2 hS2 ks2 hZ hown FC2 FV2 Li2
  have f3 := PE.ext E2
  have f4 := PF1.ext E2
  have f5 := PF2.ext E2
  have f6 := (Keep.refl h0 [a1]).ext E2
  have Z2 := Nat.le_trans Z0 E2.1
  have ne2 := Fld.ne f4 FV2 nofun
  show own_Go _ _ _ _ (T2.setTop (mkF m 11 #[.val (.ref a1), .val (.ref b1), .val (.int (0 : Int32)), .val (.int (0 : Int32)), .val .null, .unset] [(.ref b2), (.ref a1)]))
  obtain ⟨T7, X7, e7, st7⟩ := getF X2 hx hZ hown (host := "") (Or.inl (hw _ (List.mem_of_getElem? (i := 27) rfl))) Via.refl e2 FV2 (g := (mkF m 11 #[.val (.ref a1), .val (.ref b1), .val (.int (0 : Int32)), .val (.int (0 : Int32)), .val .null, .unset] [(.ref b2), (.ref a1)])) rfl rfl (hb hby d3_11)
  refine own_by st7 ?_
  show own_Go _ _ _ _ (T7.setTop (mkF m 14 #[.val (.ref a1), .val (.ref b1), .val (.int (0 : Int32)), .val (.int (0 : Int32)), .val .null, .unset] [(.ref bv2), (.ref a1)]))
  obtain ⟨T8, h8, X8, e8, W8, st8⟩ := putF X7 hx hZ hown (host := "") (Or.inl (hw _ (List.mem_of_getElem? (i := 27) rfl))) Via.refl e7 f4 f3 (Or.inr ⟨(hw _ (List.mem_of_getElem? (i := 23) rfl)), rfl, hnm⟩) (hw _ (List.mem_of_getElem? (i := 8) rfl)) (ty := (.array .byte)) (by decide) rfl rfl (g := (mkF m 14 #[.val (.ref a1), .val (.ref b1), .val (.int (0 : Int32)), .val (.int (0 : Int32)), .val .null, .unset] [(.ref bv2), (.ref a1)])) rfl rfl (hb hby d3_14)
  refine own_by st8 ?_
  have f9 := f4.same W8
  have f10 := f3.wr W8
  have f11 := f5.other W8 (Or.inr (slot_ne (Or.inr (hw _ (List.mem_of_getElem? (i := 24) rfl))) (Or.inr (hw _ (List.mem_of_getElem? (i := 23) rfl))) (by decide) (t := .byte) (t' := (.array .byte)) (by decide) (by decide)))
  have f12 := f6.wr W8 (Or.inl (List.mem_of_getElem? (i := 0) rfl))
  have f13 := FC2.other W8 (Or.inl (Ne.symm ne2))
  have f14 := FV2.other W8 (Or.inl (Ne.symm ne2))
  have N8 := Fr.snoc X8 N0 Pg1
  have Z8 := own_size_wr W8 Z2
  have ks8 := own_size_wr W8 ks2
  show own_Go _ _ _ _ (T8.setTop (mkF m 17 #[.val (.ref a1), .val (.ref b1), .val (.int (0 : Int32)), .val (.int (0 : Int32)), .val .null, .unset] []))
  refine own_by (fun _ k => XS.aloadN X8.here hx rfl (hb hby d3_17) rfl rfl k) ?_
  show own_Go _ _ _ _ (T8.setTop (mkF m 18 #[.val (.ref a1), .val (.ref b1), .val (.int (0 : Int32)), .val (.int (0 : Int32)), .val .null, .unset] [(.ref a1)]))
  refine own_by (ldcAgain X8 hx hZ hown (hw _ (List.mem_of_getElem? (i := 21) rfl)) Li2 (g := (mkF m 18 #[.val (.ref a1), .val (.ref b1), .val (.int (0 : Int32)), .val (.int (0 : Int32)), .val .null, .unset] [(.ref a1)])) rfl (hb hby d3_18)) ?_
  show own_Go _ _ _ _ (T8.setTop (mkF m 20 #[.val (.ref a1), .val (.ref b1), .val (.int (0 : Int32)), .val (.int (0 : Int32)), .val .null, .unset] [(.ref b2), (.ref a1)]))
  obtain ⟨T16, X16, e16, st16⟩ := getF X8 hx hZ hown (host := "") (Or.inl (hw _ (List.mem_of_getElem? (i := 28) rfl))) Via.refl e8 f13 (g := (mkF m 20 #[.val (.ref a1), .val (.ref b1), .val (.int (0 : Int32)), .val (.int (0 : Int32)), .val .null, .unset] [(.ref b2), (.ref a1)])) rfl rfl (hb hby d3_20)
  refine own_by st16 ?_
  show own_Go _ _ _ _ (T16.setTop (mkF m 23 #[.val (.ref a1), .val (.ref b1), .val (.int (0 : Int32)), .val (.int (0 : Int32)), .val .null, .unset] [(.int (0 : Int32)), (.ref a1)]))
  obtain ⟨T17, h17, X17, e17, W17, st17⟩ := putFN X16 hx hZ hown (hw _ (List.mem_of_getElem? (i := 28) rfl)) Via.refl e16 f11 f10 (Or.inr ⟨(hw _ (List.mem_of_getElem? (i := 24) rfl)), rfl, hnm⟩) (hw _ (List.mem_of_getElem? (i := 8) rfl)) (ty := .byte) (v' := (.int (nar .byte (0 : Int32)))) (by decide) rfl (fits_nar_byte _) (g := (mkF m 23 #[.val (.ref a1), .val (.ref b1), .val (.int (0 : Int32)), .val (.int (0 : Int32)), .val .null, .unset] [(.int (0 : Int32)), (.ref a1)])) rfl rfl (hb hby d3_23)
  refine own_by st17 ?_
  have f18 := f11.same W17
  have f19 := f10.wr W17
  have f20 := f9.other W17 (Or.inr (slot_ne (Or.inr (hw _ (List.mem_of_getElem? (i := 23) rfl))) (Or.inr (hw _ (List.mem_of_getElem? (i := 24) rfl))) (by decide) (t := (.array .byte)) (t' := .byte) (by decide) (by decide)))
  have f21 := f12.wr W17 (Or.inl (List.mem_of_getElem? (i := 0) rfl))
  have f22 := f13.other W17 (Or.inl (Ne.symm ne2))
  have f23 := f14.other W17 (Or.inl (Ne.symm ne2))
  have N17 := Fr.snoc X17 N8 Pg1
  have Z17 := own_size_wr W17 Z8
  have ks17 := own_size_wr W17 ks8
  show own_Go _ _ _ _ (T17.setTop (mkF m 26 #[.val (.ref a1), .val (.ref b1), .val (.int (0 : Int32)), .val (.int (0 : Int32)), .val .null, .unset] []))
  exact own_retWV X17 hx Bd.notSynchronized e17 Bd.returns hS2 ks17 (hb hby d3_26) (⟨rfl, N17, f21⟩) (by decide) (by decide)
set_option maxRecDepth 65536 in
set_option maxHeartbeats 40000000 in
theorem rm2_0 (l : Launch) (Z : State) (a0 : Array Value) (hw : ∀ d ∈ tables_1, d.before a0 Z = true) (ws : List Jvm.Cond) (a1 : Addr) (b1 : Addr) (f : Nat → Int32) (h0 : Heap) (n0 : Nat) (Z0 : n0 ≤ h0.size) (PE : Exa Z h0 a1 "java/lang/String") (PF1 : Fld Z h0 a1 "java/lang/String" "value" "[B" .null) (PF2 : Fld Z h0 a1 "java/lang/String" "coder" "B" (.int 0)) (Pg1 : n0 ≤ a1) (Pk : ∀ (b : Addr) (cl : Cell), Z.heap[b]? = some cl → h0[b]? = some cl) (Ph : Jvm.Lit.constHeld Z "java/lang/String" 7) (Pc : Jvm.Lit.compactW.before a0 Z = true) (PA1 : own_AI Z h0 b1 .char 0 f) :
    MetFree l (⟨"java/lang/String", "<init>", "([C)V"⟩ : MethodName) (head1 (Jvm.Cond.code (⟨"java/lang/String", "<init>", "([C)V"⟩ : MethodName) jdk_42_method_3_code 2 none :: ws) ({ frames := 2, cells := 2, slots := 4, locals := 40 } : Room)) (fun a U => a = #[(.ref a1), (.ref b1)] ∧ Z.Warmed39 U.vm ∧ U.heap = h0 ∧ U.vm.interned = Z.vm.interned) (fun _ _ _ _ _ => True) (fun _ U o U' => ∃ vv LL, o = .returned vv ∧ own_ap (fun v h L => v = none ∧ Fr n0 L ∧ Keep h0 h [a1]) vv U'.heap LL ∧ ReturnedEndW U o U' LL 2 4) := by
  refine MetFree.of_bodySF (plainFor_of_name pn_2) hisR ?_
  intro p e s m args below meth c s₁ Bd hml0 hP hK
  obtain ⟨rfl, hZ, hh, I0⟩ := hP
  have hx := Bd.exec
  have hby := Bd.bytes
  have hml : c.maxLocals = 2 := hml0
  have hown : s.vm.findClass "java/lang/String" = some m.cls := findClass_of_methodNamed Bd.named
  have hnm := (name_of_methodNamed Bd.named Bd.method).1
  have X0 : Stand p l e ({ frames := 2, cells := 2, slots := 4, locals := 40 } : Room) (s.setVm s.vm) m #[(.ref a1), (.ref b1)] below meth c s₁ [] 0 0 := Stand.of_body Bd
  have e0 : s₁.heap = h0 := by rw [← hh, Bd.state]; rfl
  have N0 := Fr.nil n0
  have hZ : Z.Warmed39 (s.setVm s.vm).vm := hZ
  have hown : (s.setVm s.vm).vm.findClass "java/lang/String" = some m.cls := hown
  have hS0 : s.Since s.vm 0 := (State.WarmedH.refl s).since 0
  have k0 : 0 ≤ h0.size := Nat.zero_le _
  show own_Go p.tables e below (own_QW s (fun v h L => v = none ∧ Fr n0 L ∧ Keep h0 h [a1]) 2 4) (s₁.setTop (entryFrame m #[(.ref a1), (.ref b1)] 2))
  rw [show entryFrame m #[(.ref a1), (.ref b1)] 2 = mkF m 0 #[.val (.ref a1), .val (.ref b1)] [] from by first | (simp [entryFrame, mkF, argsToLocals, Value.category]; done) | rfl]
  show own_Go _ _ _ _ (s₁.setTop (mkF m 0 #[.val (.ref a1), .val (.ref b1)] []))
  refine own_by (fun _ k => XS.aloadN X0.here hx rfl (hb hby d2_0) rfl rfl k) ?_
  refine own_by (fun _ k => XS.aloadN X0.here hx rfl (hb hby d2_1) rfl rfl k) ?_
  refine own_by (fun _ k => XS.iconst X0.here hx rfl (hb hby d2_2) k) ?_
  show own_Go _ _ _ _ (s₁.setTop (mkF m 3 #[.val (.ref a1), .val (.ref b1)] [(.int (0 : Int32)), (.ref b1), (.ref a1)]))
  refine own_by (fun _ k => XS.aloadN X0.here hx rfl (hb hby d2_3) rfl rfl k) ?_
  show own_Go _ _ _ _ (s₁.setTop (mkF m 4 #[.val (.ref a1), .val (.ref b1)] [(.ref b1), (.int (0 : Int32)), (.ref b1), (.ref a1)]))
  refine own_by (fun _ k => own_len X0 hx hZ e0 PA1 (0 : Int32) (by decide) (hb hby d2_4) k) ?_
  show own_Go _ _ _ _ (s₁.setTop (mkF m 5 #[.val (.ref a1), .val (.ref b1)] [(.int (0 : Int32)), (.int (0 : Int32)), (.ref b1), (.ref a1)]))
  refine own_by (fun _ k => XS.aconstNull X0.here hx rfl (hb hby d2_5) k) ?_
  show own_Go _ _ _ _ (s₁.setTop (mkF m 6 #[.val (.ref a1), .val (.ref b1)] [.null, (.int (0 : Int32)), (.int (0 : Int32)), (.ref b1), (.ref a1)]))
  refine own_callIW X0 hx hZ hown rfl (hw _ (List.mem_of_getElem? (i := 14) rfl)) (hw _ (List.mem_of_getElem? (i := 15) rfl)) (hw _ (List.mem_of_getElem? (i := 9) rfl)) (hw _ (List.mem_of_getElem? (i := 17) rfl)) (by decide) I0 hS0 k0 (rm3_0 l Z a0 hw [] a1 b1 h0 n0 Z0 PE PF1 PF2 Pg1 Pk Ph Pc) e0 (by rw [hml]; rfl) a1 [(.ref b1), (.int (0 : Int32)), (.int (0 : Int32)), .null] [] rfl (lenOf own_pd3 rfl) rfl 0 (Nat.le_of_eq rfl) (by decide) (by decide) (Nat.le_of_ble_eq_true rfl) (Nat.le_of_ble_eq_true rfl) (hb hby d2_6) ?_
  intro T1 Lc1 v1 X1 hS1 hZ hown hQ1
  obtain ⟨h1, e1⟩ : ∃ h, T1.heap = h := ⟨_, rfl⟩
  rw [e1] at hQ1
  obtain ⟨rfl, N1q, K1⟩ := hQ1
  have N1 := Fr.app N0 N1q
  have f2 := PE.keep K1
  have f5 := (Keep.refl h0 [a1]).trans K1 (allS (P := fun x => x ∈ [a1] ∨ h0.size ≤ x) (Or.inl (List.mem_of_getElem? (i := 0) rfl)) all0)
  have Z1 := Nat.le_trans Z0 K1.1
  have ks1 : T1.heap.size ≤ h1.size := Nat.le_of_eq (by rw [e1])
  show own_Go _ _ _ _ (T1.setTop (mkF m 9 #[.val (.ref a1), .val (.ref b1)] []))
  exact own_retWV X1 hx Bd.notSynchronized e1 Bd.returns hS1 ks1 (hb hby d2_9) (⟨rfl, N1, f5⟩) (by decide) (by decide)
set_option maxRecDepth 65536 in
set_option maxHeartbeats 40000000 in
theorem rm10 (l : Launch) (Z : State) (a0 : Array Value) (hw : ∀ d ∈ tables_1, d.before a0 Z = true) (ws : List Jvm.Cond) (a1 : Addr)  (h0 : Heap) (n0 : Nat) (Z0 : n0 ≤ h0.size) :
    MetFree l (⟨"java/lang/Record", "<init>", "()V"⟩ : MethodName) (head1 (Jvm.Cond.code (⟨"java/lang/Record", "<init>", "()V"⟩ : MethodName) jdk_30_method_1_code 1 none :: ws) ({ frames := 1, cells := 0, slots := 0, locals := 12 } : Room)) (fun a U => a = #[(.ref a1)] ∧ Z.Warmed39 U.vm ∧ U.heap = h0) (fun _ _ _ _ _ => True) (fun _ U o U' => ∃ vv LL, o = .returned vv ∧ own_ap (fun v h L => v = none ∧ Fr n0 L ∧ h = h0) vv U'.heap LL ∧ FrameEnd U o U' LL 0 0) := by
  refine MetFree.of_bodySF (plainFor_of_name pn_10) hisR ?_
  intro p e s m args below meth c s₁ Bd hml0 hP hK
  obtain ⟨rfl, hZ, hh⟩ := hP
  have hx := Bd.exec
  have hby := Bd.bytes
  have hml : c.maxLocals = 1 := hml0
  have hown : s.vm.findClass "java/lang/Record" = some m.cls := findClass_of_methodNamed Bd.named
  have hnm := (name_of_methodNamed Bd.named Bd.method).1
  have X0 : Stand p l e ({ frames := 1, cells := 0, slots := 0, locals := 12 } : Room) s m #[(.ref a1)] below meth c s₁ [] 0 0 := Stand.of_body Bd
  have e0 : s₁.heap = h0 := by rw [← hh, Bd.state]; rfl
  have N0 := Fr.nil n0
  show own_Go p.tables e below (own_Q s (fun v h L => v = none ∧ Fr n0 L ∧ h = h0) 0 0) (s₁.setTop (entryFrame m #[(.ref a1)] 1))
  rw [show entryFrame m #[(.ref a1)] 1 = mkF m 0 #[.val (.ref a1)] [] from by first | (simp [entryFrame, mkF, argsToLocals, Value.category]; done) | rfl]
  show own_Go _ _ _ _ (s₁.setTop (mkF m 0 #[.val (.ref a1)] []))
  refine own_by (fun _ k => XS.aloadN X0.here hx rfl (hb hby d10_0) rfl rfl k) ?_
  show own_Go _ _ _ _ (s₁.setTop (mkF m 1 #[.val (.ref a1)] [(.ref a1)]))
  obtain ⟨T1, X1, e1, st1⟩ := initO X0 hx hZ hown (hw _ (List.mem_of_getElem? (i := 56) rfl)) (hw _ (List.mem_of_getElem? (i := 19) rfl)) (hw _ (List.mem_of_getElem? (i := 20) rfl)) e0 (g := (mkF m 1 #[.val (.ref a1)] [(.ref a1)])) rfl (by rw [hml]; rfl) rfl (hb hby d10_1) (by decide) (W := 0) (by show 2 * 0 + _ ≤ _; exact Nat.le_of_eq rfl) (by decide)
  refine own_by st1 ?_
  show own_Go _ _ _ _ (T1.setTop (mkF m 4 #[.val (.ref a1)] []))
  exact own_retV X1 hx Bd.notSynchronized e1 Bd.returns (hb hby d10_4) (⟨rfl, N0, rfl⟩) (by decide) (by decide)
set_option maxRecDepth 65536 in
set_option maxHeartbeats 40000000 in
theorem rm9_n (l : Launch) (Z : State) (a0 : Array Value) (hw : ∀ d ∈ tables_1, d.before a0 Z = true) (ws : List Jvm.Cond) (a1 : Addr) (r1 : Addr) (r3 : Addr) (r4 : Addr)  (h0 : Heap) (n0 : Nat) (Z0 : n0 ≤ h0.size) (PE : Exa Z h0 a1 "com/example/time_for_trials/timefortrials/cli/Usage$Option") (PF0 : Fld Z h0 a1 "com/example/time_for_trials/timefortrials/cli/Usage$Option" "name" "Ljava/lang/String;" .null) (PF1 : Fld Z h0 a1 "com/example/time_for_trials/timefortrials/cli/Usage$Option" "value" "Ljava/lang/String;" .null) (PF2 : Fld Z h0 a1 "com/example/time_for_trials/timefortrials/cli/Usage$Option" "occurs" "Lcom/example/time_for_trials/timefortrials/cli/Usage$Occurs;" .null) (PF3 : Fld Z h0 a1 "com/example/time_for_trials/timefortrials/cli/Usage$Option" "description" "Ljava/lang/String;" .null) (Pg1 : n0 ≤ a1) :
    MetFree l (⟨"com/example/time_for_trials/timefortrials/cli/Usage$Option", "<init>", "(Ljava/lang/String;Ljava/lang/String;Lcom/example/time_for_trials/timefortrials/cli/Usage$Occurs;Ljava/lang/String;)V"⟩ : MethodName) (head1 (Jvm.Cond.code (⟨"com/example/time_for_trials/timefortrials/cli/Usage$Option", "<init>", "(Ljava/lang/String;Ljava/lang/String;Lcom/example/time_for_trials/timefortrials/cli/Usage$Occurs;Ljava/lang/String;)V"⟩ : MethodName) prog_9_method_1_code 5 none :: ws) ({ frames := 2, cells := 0, slots := 0, locals := 24 } : Room)) (fun a U => a = #[(.ref a1), (.ref r1), .null, (.ref r3), (.ref r4)] ∧ Z.Warmed39 U.vm ∧ U.heap = h0) (fun _ _ _ _ _ => True) (fun _ U o U' => ∃ vv LL, o = .returned vv ∧ own_ap (fun v h L => v = none ∧ Fr n0 L ∧ Keep h0 h [a1] ∧ Fld Z h a1 "com/example/time_for_trials/timefortrials/cli/Usage$Option" "value" "Ljava/lang/String;" .null) vv U'.heap LL ∧ FrameEnd U o U' LL 0 0) := by
  refine MetFree.of_bodySF (plainFor_of_name pn_9) hisR ?_
  intro p e s m args below meth c s₁ Bd hml0 hP hK
  obtain ⟨rfl, hZ, hh⟩ := hP
  have hx := Bd.exec
  have hby := Bd.bytes
  have hml : c.maxLocals = 5 := hml0
  have hown : s.vm.findClass "com/example/time_for_trials/timefortrials/cli/Usage$Option" = some m.cls := findClass_of_methodNamed Bd.named
  have hnm := (name_of_methodNamed Bd.named Bd.method).1
  have X0 : Stand p l e ({ frames := 2, cells := 0, slots := 0, locals := 24 } : Room) s m #[(.ref a1), (.ref r1), .null, (.ref r3), (.ref r4)] below meth c s₁ [] 0 0 := Stand.of_body Bd
  have e0 : s₁.heap = h0 := by rw [← hh, Bd.state]; rfl
  have N0 := Fr.nil n0
  show own_Go p.tables e below (own_Q s (fun v h L => v = none ∧ Fr n0 L ∧ Keep h0 h [a1] ∧ Fld Z h a1 "com/example/time_for_trials/timefortrials/cli/Usage$Option" "value" "Ljava/lang/String;" .null) 0 0) (s₁.setTop (entryFrame m #[(.ref a1), (.ref r1), .null, (.ref r3), (.ref r4)] 5))
  rw [show entryFrame m #[(.ref a1), (.ref r1), .null, (.ref r3), (.ref r4)] 5 = mkF m 0 #[.val (.ref a1), .val (.ref r1), .val .null, .val (.ref r3), .val (.ref r4)] [] from by first | (simp [entryFrame, mkF, argsToLocals, Value.category]; done) | rfl]
  show own_Go _ _ _ _ (s₁.setTop (mkF m 0 #[.val (.ref a1), .val (.ref r1), .val .null, .val (.ref r3), .val (.ref r4)] []))
  refine own_by (fun _ k => XS.aloadN X0.here hx rfl (hb hby d9_0) rfl rfl k) ?_
  show own_Go _ _ _ _ (s₁.setTop (mkF m 1 #[.val (.ref a1), .val (.ref r1), .val .null, .val (.ref r3), .val (.ref r4)] [(.ref a1)]))
  refine own_callI X0 hx hZ hown rfl (hw _ (List.mem_of_getElem? (i := 51) rfl)) (hw _ (List.mem_of_getElem? (i := 52) rfl)) (hw _ (List.mem_of_getElem? (i := 54) rfl)) (hw _ (List.mem_of_getElem? (i := 55) rfl)) (by decide) (rm10 l Z a0 hw [] a1 h0 n0 Z0) e0 (by rw [hml]; rfl) a1 [] [] rfl (lenOf own_pd4 rfl) rfl 0 (Nat.le_of_eq rfl) (by decide) (by decide) (Nat.le_of_ble_eq_true rfl) (Nat.le_of_ble_eq_true rfl) (hb hby d9_1) ?_
  intro T1 Lc1 v1 X1 hQ1
  obtain ⟨rfl, N1q, e1⟩ := hQ1
  have N1 := Fr.app N0 N1q
  show own_Go _ _ _ _ (T1.setTop (mkF m 4 #[.val (.ref a1), .val (.ref r1), .val .null, .val (.ref r3), .val (.ref r4)] []))
  refine own_by (fun _ k => XS.aloadN X1.here hx rfl (hb hby d9_4) rfl rfl k) ?_
  refine own_by (fun _ k => XS.aloadN X1.here hx rfl (hb hby d9_5) rfl rfl k) ?_
  show own_Go _ _ _ _ (T1.setTop (mkF m 6 #[.val (.ref a1), .val (.ref r1), .val .null, .val (.ref r3), .val (.ref r4)] [(.ref r1), (.ref a1)]))
  obtain ⟨T2, h2, X2, e2, W2, st2⟩ := putF X1 hx hZ hown (host := "") (Or.inl (hw _ (List.mem_of_getElem? (i := 57) rfl))) Via.refl e1 PF0 PE (Or.inr ⟨(hw _ (List.mem_of_getElem? (i := 58) rfl)), rfl, hnm⟩) (hw _ (List.mem_of_getElem? (i := 45) rfl)) (ty := (.object "java/lang/String")) (by decide) rfl rfl (g := (mkF m 6 #[.val (.ref a1), .val (.ref r1), .val .null, .val (.ref r3), .val (.ref r4)] [(.ref r1), (.ref a1)])) rfl rfl (hb hby d9_6)
  refine own_by st2 ?_
  have f3 := PF0.same W2
  have f4 := PE.wr W2
  have f5 := (Keep.refl h0 [a1]).wr W2 (Or.inl (List.mem_of_getElem? (i := 0) rfl))
  have f6 := PF1.other W2 (Or.inr (slot_ne (Or.inr (hw _ (List.mem_of_getElem? (i := 60) rfl))) (Or.inr (hw _ (List.mem_of_getElem? (i := 58) rfl))) (by decide) (t := (.object "java/lang/String")) (t' := (.object "java/lang/String")) (by decide) (by decide)))
  have f7 := PF2.other W2 (Or.inr (slot_ne (Or.inr (hw _ (List.mem_of_getElem? (i := 62) rfl))) (Or.inr (hw _ (List.mem_of_getElem? (i := 58) rfl))) (by decide) (t := (.object "com/example/time_for_trials/timefortrials/cli/Usage$Occurs")) (t' := (.object "java/lang/String")) (by decide) (by decide)))
  have f8 := PF3.other W2 (Or.inr (slot_ne (Or.inr (hw _ (List.mem_of_getElem? (i := 64) rfl))) (Or.inr (hw _ (List.mem_of_getElem? (i := 58) rfl))) (by decide) (t := (.object "java/lang/String")) (t' := (.object "java/lang/String")) (by decide) (by decide)))
  have N2 := Fr.snoc X2 N1 Pg1
  have Z2 := own_size_wr W2 Z0
  show own_Go _ _ _ _ (T2.setTop (mkF m 9 #[.val (.ref a1), .val (.ref r1), .val .null, .val (.ref r3), .val (.ref r4)] []))
  refine own_by (fun _ k => XS.aloadN X2.here hx rfl (hb hby d9_9) rfl rfl k) ?_
  refine own_by (fun _ k => XS.aloadN X2.here hx rfl (hb hby d9_10) rfl rfl k) ?_
  show own_Go _ _ _ _ (T2.setTop (mkF m 11 #[.val (.ref a1), .val (.ref r1), .val .null, .val (.ref r3), .val (.ref r4)] [.null, (.ref a1)]))
  obtain ⟨T9, h9, X9, e9, W9, st9⟩ := putF X2 hx hZ hown (host := "") (Or.inl (hw _ (List.mem_of_getElem? (i := 59) rfl))) Via.refl e2 f6 f4 (Or.inr ⟨(hw _ (List.mem_of_getElem? (i := 60) rfl)), rfl, hnm⟩) (hw _ (List.mem_of_getElem? (i := 45) rfl)) (ty := (.object "java/lang/String")) (by decide) rfl rfl (g := (mkF m 11 #[.val (.ref a1), .val (.ref r1), .val .null, .val (.ref r3), .val (.ref r4)] [.null, (.ref a1)])) rfl rfl (hb hby d9_11)
  refine own_by st9 ?_
  have f10 := f6.same W9
  have f11 := f4.wr W9
  have f12 := f5.wr W9 (Or.inl (List.mem_of_getElem? (i := 0) rfl))
  have f13 := f3.other W9 (Or.inr (slot_ne (Or.inr (hw _ (List.mem_of_getElem? (i := 58) rfl))) (Or.inr (hw _ (List.mem_of_getElem? (i := 60) rfl))) (by decide) (t := (.object "java/lang/String")) (t' := (.object "java/lang/String")) (by decide) (by decide)))
  have f14 := f7.other W9 (Or.inr (slot_ne (Or.inr (hw _ (List.mem_of_getElem? (i := 62) rfl))) (Or.inr (hw _ (List.mem_of_getElem? (i := 60) rfl))) (by decide) (t := (.object "com/example/time_for_trials/timefortrials/cli/Usage$Occurs")) (t' := (.object "java/lang/String")) (by decide) (by decide)))
  have f15 := f8.other W9 (Or.inr (slot_ne (Or.inr (hw _ (List.mem_of_getElem? (i := 64) rfl))) (Or.inr (hw _ (List.mem_of_getElem? (i := 60) rfl))) (by decide) (t := (.object "java/lang/String")) (t' := (.object "java/lang/String")) (by decide) (by decide)))
  have N9 := Fr.snoc X9 N2 Pg1
  have Z9 := own_size_wr W9 Z2
  show own_Go _ _ _ _ (T9.setTop (mkF m 14 #[.val (.ref a1), .val (.ref r1), .val .null, .val (.ref r3), .val (.ref r4)] []))
  refine own_by (fun _ k => XS.aloadN X9.here hx rfl (hb hby d9_14) rfl rfl k) ?_
  refine own_by (fun _ k => XS.aloadN X9.here hx rfl (hb hby d9_15) rfl rfl k) ?_
  show own_Go _ _ _ _ (T9.setTop (mkF m 16 #[.val (.ref a1), .val (.ref r1), .val .null, .val (.ref r3), .val (.ref r4)] [(.ref r3), (.ref a1)]))
  obtain ⟨T16, h16, X16, e16, W16, st16⟩ := putF X9 hx hZ hown (host := "") (Or.inl (hw _ (List.mem_of_getElem? (i := 61) rfl))) Via.refl e9 f14 f11 (Or.inr ⟨(hw _ (List.mem_of_getElem? (i := 62) rfl)), rfl, hnm⟩) (hw _ (List.mem_of_getElem? (i := 45) rfl)) (ty := (.object "com/example/time_for_trials/timefortrials/cli/Usage$Occurs")) (by decide) rfl rfl (g := (mkF m 16 #[.val (.ref a1), .val (.ref r1), .val .null, .val (.ref r3), .val (.ref r4)] [(.ref r3), (.ref a1)])) rfl rfl (hb hby d9_16)
  refine own_by st16 ?_
  have f17 := f14.same W16
  have f18 := f11.wr W16
  have f19 := f12.wr W16 (Or.inl (List.mem_of_getElem? (i := 0) rfl))
  have f20 := f13.other W16 (Or.inr (slot_ne (Or.inr (hw _ (List.mem_of_getElem? (i := 58) rfl))) (Or.inr (hw _ (List.mem_of_getElem? (i := 62) rfl))) (by decide) (t := (.object "java/lang/String")) (t' := (.object "com/example/time_for_trials/timefortrials/cli/Usage$Occurs")) (by decide) (by decide)))
  have f21 := f10.other W16 (Or.inr (slot_ne (Or.inr (hw _ (List.mem_of_getElem? (i := 60) rfl))) (Or.inr (hw _ (List.mem_of_getElem? (i := 62) rfl))) (by decide) (t := (.object "java/lang/String")) (t' := (.object "com/example/time_for_trials/timefortrials/cli/Usage$Occurs")) (by decide) (by decide)))
  have f22 := f15.other W16 (Or.inr (slot_ne (Or.inr (hw _ (List.mem_of_getElem? (i := 64) rfl))) (Or.inr (hw _ (List.mem_of_getElem? (i := 62) rfl))) (by decide) (t := (.object "java/lang/String")) (t' := (.object "com/example/time_for_trials/timefortrials/cli/Usage$Occurs")) (by decide) (by decide)))
  have N16 := Fr.snoc X16 N9 Pg1
  have Z16 := own_size_wr W16 Z9
  show own_Go _ _ _ _ (T16.setTop (mkF m 19 #[.val (.ref a1), .val (.ref r1), .val .null, .val (.ref r3), .val (.ref r4)] []))
  refine own_by (fun _ k => XS.aloadN X16.here hx rfl (hb hby d9_19) rfl rfl k) ?_
  refine own_by (fun _ k => XS.aload X16.here hx rfl (hb hby d9_20) rfl rfl k) ?_
  show own_Go _ _ _ _ (T16.setTop (mkF m 22 #[.val (.ref a1), .val (.ref r1), .val .null, .val (.ref r3), .val (.ref r4)] [(.ref r4), (.ref a1)]))
  obtain ⟨T23, h23, X23, e23, W23, st23⟩ := putF X16 hx hZ hown (host := "") (Or.inl (hw _ (List.mem_of_getElem? (i := 63) rfl))) Via.refl e16 f22 f18 (Or.inr ⟨(hw _ (List.mem_of_getElem? (i := 64) rfl)), rfl, hnm⟩) (hw _ (List.mem_of_getElem? (i := 45) rfl)) (ty := (.object "java/lang/String")) (by decide) rfl rfl (g := (mkF m 22 #[.val (.ref a1), .val (.ref r1), .val .null, .val (.ref r3), .val (.ref r4)] [(.ref r4), (.ref a1)])) rfl rfl (hb hby d9_22)
  refine own_by st23 ?_
  have f24 := f22.same W23
  have f25 := f18.wr W23
  have f26 := f19.wr W23 (Or.inl (List.mem_of_getElem? (i := 0) rfl))
  have f27 := f20.other W23 (Or.inr (slot_ne (Or.inr (hw _ (List.mem_of_getElem? (i := 58) rfl))) (Or.inr (hw _ (List.mem_of_getElem? (i := 64) rfl))) (by decide) (t := (.object "java/lang/String")) (t' := (.object "java/lang/String")) (by decide) (by decide)))
  have f28 := f21.other W23 (Or.inr (slot_ne (Or.inr (hw _ (List.mem_of_getElem? (i := 60) rfl))) (Or.inr (hw _ (List.mem_of_getElem? (i := 64) rfl))) (by decide) (t := (.object "java/lang/String")) (t' := (.object "java/lang/String")) (by decide) (by decide)))
  have f29 := f17.other W23 (Or.inr (slot_ne (Or.inr (hw _ (List.mem_of_getElem? (i := 62) rfl))) (Or.inr (hw _ (List.mem_of_getElem? (i := 64) rfl))) (by decide) (t := (.object "com/example/time_for_trials/timefortrials/cli/Usage$Occurs")) (t' := (.object "java/lang/String")) (by decide) (by decide)))
  have N23 := Fr.snoc X23 N16 Pg1
  have Z23 := own_size_wr W23 Z16
  show own_Go _ _ _ _ (T23.setTop (mkF m 25 #[.val (.ref a1), .val (.ref r1), .val .null, .val (.ref r3), .val (.ref r4)] []))
  exact own_retV X23 hx Bd.notSynchronized e23 Bd.returns (hb hby d9_25) (⟨rfl, N23, f26, f28⟩) (by decide) (by decide)
set_option maxRecDepth 65536 in
set_option maxHeartbeats 40000000 in
theorem rm11_n (l : Launch) (Z : State) (a0 : Array Value) (hw : ∀ d ∈ tables_1, d.before a0 Z = true) (ws : List Jvm.Cond) (a1 : Addr) (r2 : Addr) (h0 : Heap) (n0 : Nat) (Z0 : n0 ≤ h0.size) (PF : Fld Z h0 a1 "com/example/time_for_trials/timefortrials/cli/Usage$Option" "value" "Ljava/lang/String;" .null) :
    MetFree l (⟨"com/example/time_for_trials/timefortrials/cli/Usage$Option", "takesValue", "()Z"⟩ : MethodName) (head1 (Jvm.Cond.code (⟨"com/example/time_for_trials/timefortrials/cli/Usage$Option", "takesValue", "()Z"⟩ : MethodName) prog_9_method_2_code 1 (some .boolean) :: ws) ({ frames := 0, cells := 0, slots := 0, locals := 0 } : Room)) (fun a U => a = #[(.ref a1)] ∧ Z.Warmed39 U.vm ∧ U.heap = h0) (fun _ _ _ _ _ => True) (fun _ U o U' => ∃ vv LL, o = .returned vv ∧ own_ap (fun v h L => v = some (.int 0) ∧ Fr n0 L ∧ h = h0) vv U'.heap LL ∧ FrameEnd U o U' LL 0 0) := by
  refine MetFree.of_bodySF (plainFor_of_name pn_11) hisR ?_
  intro p e s m args below meth c s₁ Bd hml0 hP hK
  obtain ⟨rfl, hZ, hh⟩ := hP
  have hx := Bd.exec
  have hby := Bd.bytes
  have hml : c.maxLocals = 1 := hml0
  have hown : s.vm.findClass "com/example/time_for_trials/timefortrials/cli/Usage$Option" = some m.cls := findClass_of_methodNamed Bd.named
  have hnm := (name_of_methodNamed Bd.named Bd.method).1
  have X0 : Stand p l e ({ frames := 0, cells := 0, slots := 0, locals := 0 } : Room) s m #[(.ref a1)] below meth c s₁ [] 0 0 := Stand.of_body Bd
  have e0 : s₁.heap = h0 := by rw [← hh, Bd.state]; rfl
  have N0 := Fr.nil n0
  show own_Go p.tables e below (own_Q s (fun v h L => v = some (.int 0) ∧ Fr n0 L ∧ h = h0) 0 0) (s₁.setTop (entryFrame m #[(.ref a1)] 1))
  rw [show entryFrame m #[(.ref a1)] 1 = mkF m 0 #[.val (.ref a1)] [] from by first | (simp [entryFrame, mkF, argsToLocals, Value.category]; done) | rfl]
  show own_Go _ _ _ _ (s₁.setTop (mkF m 0 #[.val (.ref a1)] []))
  refine own_by (fun _ k => XS.aloadN X0.here hx rfl (hb hby d11_0) rfl rfl k) ?_
  show own_Go _ _ _ _ (s₁.setTop (mkF m 1 #[.val (.ref a1)] [(.ref a1)]))
  obtain ⟨T1, X1, e1, st1⟩ := getF X0 hx hZ hown (host := "") (Or.inl (hw _ (List.mem_of_getElem? (i := 59) rfl))) Via.refl e0 PF (g := (mkF m 1 #[.val (.ref a1)] [(.ref a1)])) rfl rfl (hb hby d11_1)
  refine own_by st1 ?_
  show own_Go _ _ _ _ (T1.setTop (mkF m 4 #[.val (.ref a1)] [.null]))
  refine own_by (fun _ k => XS.ifnullYes X1.here hx rfl (pc0 := 4) (pc' := 11) rfl (hb hby d11_4) rfl (by decide) (by decide) k) ?_
  refine own_by (fun _ k => XS.iconst X1.here hx rfl (hb hby d11_11) k) ?_
  show own_Go _ _ _ _ (T1.setTop (mkF m 12 #[.val (.ref a1)] [(.int (0 : Int32))]))
  exact own_retN X1 hx Bd.notSynchronized e1 Bd.returns (by simp) (hb hby d11_12) (⟨rfl, N0, rfl⟩) (by decide) (by decide)
set_option maxRecDepth 65536 in
set_option maxHeartbeats 40000000 in
theorem rm9_v (l : Launch) (Z : State) (a0 : Array Value) (hw : ∀ d ∈ tables_1, d.before a0 Z = true) (ws : List Jvm.Cond) (a1 : Addr) (r1 : Addr) (r2 : Addr) (r3 : Addr) (r4 : Addr)  (h0 : Heap) (n0 : Nat) (Z0 : n0 ≤ h0.size) (PE : Exa Z h0 a1 "com/example/time_for_trials/timefortrials/cli/Usage$Option") (PF0 : Fld Z h0 a1 "com/example/time_for_trials/timefortrials/cli/Usage$Option" "name" "Ljava/lang/String;" .null) (PF1 : Fld Z h0 a1 "com/example/time_for_trials/timefortrials/cli/Usage$Option" "value" "Ljava/lang/String;" .null) (PF2 : Fld Z h0 a1 "com/example/time_for_trials/timefortrials/cli/Usage$Option" "occurs" "Lcom/example/time_for_trials/timefortrials/cli/Usage$Occurs;" .null) (PF3 : Fld Z h0 a1 "com/example/time_for_trials/timefortrials/cli/Usage$Option" "description" "Ljava/lang/String;" .null) (Pg1 : n0 ≤ a1) :
    MetFree l (⟨"com/example/time_for_trials/timefortrials/cli/Usage$Option", "<init>", "(Ljava/lang/String;Ljava/lang/String;Lcom/example/time_for_trials/timefortrials/cli/Usage$Occurs;Ljava/lang/String;)V"⟩ : MethodName) (head1 (Jvm.Cond.code (⟨"com/example/time_for_trials/timefortrials/cli/Usage$Option", "<init>", "(Ljava/lang/String;Ljava/lang/String;Lcom/example/time_for_trials/timefortrials/cli/Usage$Occurs;Ljava/lang/String;)V"⟩ : MethodName) prog_9_method_1_code 5 none :: ws) ({ frames := 2, cells := 0, slots := 0, locals := 24 } : Room)) (fun a U => a = #[(.ref a1), (.ref r1), (.ref r2), (.ref r3), (.ref r4)] ∧ Z.Warmed39 U.vm ∧ U.heap = h0) (fun _ _ _ _ _ => True) (fun _ U o U' => ∃ vv LL, o = .returned vv ∧ own_ap (fun v h L => v = none ∧ Fr n0 L ∧ Keep h0 h [a1] ∧ Fld Z h a1 "com/example/time_for_trials/timefortrials/cli/Usage$Option" "value" "Ljava/lang/String;" (.ref r2)) vv U'.heap LL ∧ FrameEnd U o U' LL 0 0) := by
  refine MetFree.of_bodySF (plainFor_of_name pn_9) hisR ?_
  intro p e s m args below meth c s₁ Bd hml0 hP hK
  obtain ⟨rfl, hZ, hh⟩ := hP
  have hx := Bd.exec
  have hby := Bd.bytes
  have hml : c.maxLocals = 5 := hml0
  have hown : s.vm.findClass "com/example/time_for_trials/timefortrials/cli/Usage$Option" = some m.cls := findClass_of_methodNamed Bd.named
  have hnm := (name_of_methodNamed Bd.named Bd.method).1
  have X0 : Stand p l e ({ frames := 2, cells := 0, slots := 0, locals := 24 } : Room) s m #[(.ref a1), (.ref r1), (.ref r2), (.ref r3), (.ref r4)] below meth c s₁ [] 0 0 := Stand.of_body Bd
  have e0 : s₁.heap = h0 := by rw [← hh, Bd.state]; rfl
  have N0 := Fr.nil n0
  show own_Go p.tables e below (own_Q s (fun v h L => v = none ∧ Fr n0 L ∧ Keep h0 h [a1] ∧ Fld Z h a1 "com/example/time_for_trials/timefortrials/cli/Usage$Option" "value" "Ljava/lang/String;" (.ref r2)) 0 0) (s₁.setTop (entryFrame m #[(.ref a1), (.ref r1), (.ref r2), (.ref r3), (.ref r4)] 5))
  rw [show entryFrame m #[(.ref a1), (.ref r1), (.ref r2), (.ref r3), (.ref r4)] 5 = mkF m 0 #[.val (.ref a1), .val (.ref r1), .val (.ref r2), .val (.ref r3), .val (.ref r4)] [] from by first | (simp [entryFrame, mkF, argsToLocals, Value.category]; done) | rfl]
  show own_Go _ _ _ _ (s₁.setTop (mkF m 0 #[.val (.ref a1), .val (.ref r1), .val (.ref r2), .val (.ref r3), .val (.ref r4)] []))
  refine own_by (fun _ k => XS.aloadN X0.here hx rfl (hb hby d9_0) rfl rfl k) ?_
  show own_Go _ _ _ _ (s₁.setTop (mkF m 1 #[.val (.ref a1), .val (.ref r1), .val (.ref r2), .val (.ref r3), .val (.ref r4)] [(.ref a1)]))
  refine own_callI X0 hx hZ hown rfl (hw _ (List.mem_of_getElem? (i := 51) rfl)) (hw _ (List.mem_of_getElem? (i := 52) rfl)) (hw _ (List.mem_of_getElem? (i := 54) rfl)) (hw _ (List.mem_of_getElem? (i := 55) rfl)) (by decide) (rm10 l Z a0 hw [] a1 h0 n0 Z0) e0 (by rw [hml]; rfl) a1 [] [] rfl (lenOf own_pd4 rfl) rfl 0 (Nat.le_of_eq rfl) (by decide) (by decide) (Nat.le_of_ble_eq_true rfl) (Nat.le_of_ble_eq_true rfl) (hb hby d9_1) ?_
  intro T1 Lc1 v1 X1 hQ1
  obtain ⟨rfl, N1q, e1⟩ := hQ1
  have N1 := Fr.app N0 N1q
  show own_Go _ _ _ _ (T1.setTop (mkF m 4 #[.val (.ref a1), .val (.ref r1), .val (.ref r2), .val (.ref r3), .val (.ref r4)] []))
  refine own_by (fun _ k => XS.aloadN X1.here hx rfl (hb hby d9_4) rfl rfl k) ?_
  refine own_by (fun _ k => XS.aloadN X1.here hx rfl (hb hby d9_5) rfl rfl k) ?_
  show own_Go _ _ _ _ (T1.setTop (mkF m 6 #[.val (.ref a1), .val (.ref r1), .val (.ref r2), .val (.ref r3), .val (.ref r4)] [(.ref r1), (.ref a1)]))
  obtain ⟨T2, h2, X2, e2, W2, st2⟩ := putF X1 hx hZ hown (host := "") (Or.inl (hw _ (List.mem_of_getElem? (i := 57) rfl))) Via.refl e1 PF0 PE (Or.inr ⟨(hw _ (List.mem_of_getElem? (i := 58) rfl)), rfl, hnm⟩) (hw _ (List.mem_of_getElem? (i := 45) rfl)) (ty := (.object "java/lang/String")) (by decide) rfl rfl (g := (mkF m 6 #[.val (.ref a1), .val (.ref r1), .val (.ref r2), .val (.ref r3), .val (.ref r4)] [(.ref r1), (.ref a1)])) rfl rfl (hb hby d9_6)
  refine own_by st2 ?_
  have f3 := PF0.same W2
  have f4 := PE.wr W2
  have f5 := (Keep.refl h0 [a1]).wr W2 (Or.inl (List.mem_of_getElem? (i := 0) rfl))
  have f6 := PF1.other W2 (Or.inr (slot_ne (Or.inr (hw _ (List.mem_of_getElem? (i := 60) rfl))) (Or.inr (hw _ (List.mem_of_getElem? (i := 58) rfl))) (by decide) (t := (.object "java/lang/String")) (t' := (.object "java/lang/String")) (by decide) (by decide)))
  have f7 := PF2.other W2 (Or.inr (slot_ne (Or.inr (hw _ (List.mem_of_getElem? (i := 62) rfl))) (Or.inr (hw _ (List.mem_of_getElem? (i := 58) rfl))) (by decide) (t := (.object "com/example/time_for_trials/timefortrials/cli/Usage$Occurs")) (t' := (.object "java/lang/String")) (by decide) (by decide)))
  have f8 := PF3.other W2 (Or.inr (slot_ne (Or.inr (hw _ (List.mem_of_getElem? (i := 64) rfl))) (Or.inr (hw _ (List.mem_of_getElem? (i := 58) rfl))) (by decide) (t := (.object "java/lang/String")) (t' := (.object "java/lang/String")) (by decide) (by decide)))
  have N2 := Fr.snoc X2 N1 Pg1
  have Z2 := own_size_wr W2 Z0
  show own_Go _ _ _ _ (T2.setTop (mkF m 9 #[.val (.ref a1), .val (.ref r1), .val (.ref r2), .val (.ref r3), .val (.ref r4)] []))
  refine own_by (fun _ k => XS.aloadN X2.here hx rfl (hb hby d9_9) rfl rfl k) ?_
  refine own_by (fun _ k => XS.aloadN X2.here hx rfl (hb hby d9_10) rfl rfl k) ?_
  show own_Go _ _ _ _ (T2.setTop (mkF m 11 #[.val (.ref a1), .val (.ref r1), .val (.ref r2), .val (.ref r3), .val (.ref r4)] [(.ref r2), (.ref a1)]))
  obtain ⟨T9, h9, X9, e9, W9, st9⟩ := putF X2 hx hZ hown (host := "") (Or.inl (hw _ (List.mem_of_getElem? (i := 59) rfl))) Via.refl e2 f6 f4 (Or.inr ⟨(hw _ (List.mem_of_getElem? (i := 60) rfl)), rfl, hnm⟩) (hw _ (List.mem_of_getElem? (i := 45) rfl)) (ty := (.object "java/lang/String")) (by decide) rfl rfl (g := (mkF m 11 #[.val (.ref a1), .val (.ref r1), .val (.ref r2), .val (.ref r3), .val (.ref r4)] [(.ref r2), (.ref a1)])) rfl rfl (hb hby d9_11)
  refine own_by st9 ?_
  have f10 := f6.same W9
  have f11 := f4.wr W9
  have f12 := f5.wr W9 (Or.inl (List.mem_of_getElem? (i := 0) rfl))
  have f13 := f3.other W9 (Or.inr (slot_ne (Or.inr (hw _ (List.mem_of_getElem? (i := 58) rfl))) (Or.inr (hw _ (List.mem_of_getElem? (i := 60) rfl))) (by decide) (t := (.object "java/lang/String")) (t' := (.object "java/lang/String")) (by decide) (by decide)))
  have f14 := f7.other W9 (Or.inr (slot_ne (Or.inr (hw _ (List.mem_of_getElem? (i := 62) rfl))) (Or.inr (hw _ (List.mem_of_getElem? (i := 60) rfl))) (by decide) (t := (.object "com/example/time_for_trials/timefortrials/cli/Usage$Occurs")) (t' := (.object "java/lang/String")) (by decide) (by decide)))
  have f15 := f8.other W9 (Or.inr (slot_ne (Or.inr (hw _ (List.mem_of_getElem? (i := 64) rfl))) (Or.inr (hw _ (List.mem_of_getElem? (i := 60) rfl))) (by decide) (t := (.object "java/lang/String")) (t' := (.object "java/lang/String")) (by decide) (by decide)))
  have N9 := Fr.snoc X9 N2 Pg1
  have Z9 := own_size_wr W9 Z2
  show own_Go _ _ _ _ (T9.setTop (mkF m 14 #[.val (.ref a1), .val (.ref r1), .val (.ref r2), .val (.ref r3), .val (.ref r4)] []))
  refine own_by (fun _ k => XS.aloadN X9.here hx rfl (hb hby d9_14) rfl rfl k) ?_
  refine own_by (fun _ k => XS.aloadN X9.here hx rfl (hb hby d9_15) rfl rfl k) ?_
  show own_Go _ _ _ _ (T9.setTop (mkF m 16 #[.val (.ref a1), .val (.ref r1), .val (.ref r2), .val (.ref r3), .val (.ref r4)] [(.ref r3), (.ref a1)]))
  obtain ⟨T16, h16, X16, e16, W16, st16⟩ := putF X9 hx hZ hown (host := "") (Or.inl (hw _ (List.mem_of_getElem? (i := 61) rfl))) Via.refl e9 f14 f11 (Or.inr ⟨(hw _ (List.mem_of_getElem? (i := 62) rfl)), rfl, hnm⟩) (hw _ (List.mem_of_getElem? (i := 45) rfl)) (ty := (.object "com/example/time_for_trials/timefortrials/cli/Usage$Occurs")) (by decide) rfl rfl (g := (mkF m 16 #[.val (.ref a1), .val (.ref r1), .val (.ref r2), .val (.ref r3), .val (.ref r4)] [(.ref r3), (.ref a1)])) rfl rfl (hb hby d9_16)
  refine own_by st16 ?_
  have f17 := f14.same W16
  have f18 := f11.wr W16
  have f19 := f12.wr W16 (Or.inl (List.mem_of_getElem? (i := 0) rfl))
  have f20 := f13.other W16 (Or.inr (slot_ne (Or.inr (hw _ (List.mem_of_getElem? (i := 58) rfl))) (Or.inr (hw _ (List.mem_of_getElem? (i := 62) rfl))) (by decide) (t := (.object "java/lang/String")) (t' := (.object "com/example/time_for_trials/timefortrials/cli/Usage$Occurs")) (by decide) (by decide)))
  have f21 := f10.other W16 (Or.inr (slot_ne (Or.inr (hw _ (List.mem_of_getElem? (i := 60) rfl))) (Or.inr (hw _ (List.mem_of_getElem? (i := 62) rfl))) (by decide) (t := (.object "java/lang/String")) (t' := (.object "com/example/time_for_trials/timefortrials/cli/Usage$Occurs")) (by decide) (by decide)))
  have f22 := f15.other W16 (Or.inr (slot_ne (Or.inr (hw _ (List.mem_of_getElem? (i := 64) rfl))) (Or.inr (hw _ (List.mem_of_getElem? (i := 62) rfl))) (by decide) (t := (.object "java/lang/String")) (t' := (.object "com/example/time_for_trials/timefortrials/cli/Usage$Occurs")) (by decide) (by decide)))
  have N16 := Fr.snoc X16 N9 Pg1
  have Z16 := own_size_wr W16 Z9
  show own_Go _ _ _ _ (T16.setTop (mkF m 19 #[.val (.ref a1), .val (.ref r1), .val (.ref r2), .val (.ref r3), .val (.ref r4)] []))
  refine own_by (fun _ k => XS.aloadN X16.here hx rfl (hb hby d9_19) rfl rfl k) ?_
  refine own_by (fun _ k => XS.aload X16.here hx rfl (hb hby d9_20) rfl rfl k) ?_
  show own_Go _ _ _ _ (T16.setTop (mkF m 22 #[.val (.ref a1), .val (.ref r1), .val (.ref r2), .val (.ref r3), .val (.ref r4)] [(.ref r4), (.ref a1)]))
  obtain ⟨T23, h23, X23, e23, W23, st23⟩ := putF X16 hx hZ hown (host := "") (Or.inl (hw _ (List.mem_of_getElem? (i := 63) rfl))) Via.refl e16 f22 f18 (Or.inr ⟨(hw _ (List.mem_of_getElem? (i := 64) rfl)), rfl, hnm⟩) (hw _ (List.mem_of_getElem? (i := 45) rfl)) (ty := (.object "java/lang/String")) (by decide) rfl rfl (g := (mkF m 22 #[.val (.ref a1), .val (.ref r1), .val (.ref r2), .val (.ref r3), .val (.ref r4)] [(.ref r4), (.ref a1)])) rfl rfl (hb hby d9_22)
  refine own_by st23 ?_
  have f24 := f22.same W23
  have f25 := f18.wr W23
  have f26 := f19.wr W23 (Or.inl (List.mem_of_getElem? (i := 0) rfl))
  have f27 := f20.other W23 (Or.inr (slot_ne (Or.inr (hw _ (List.mem_of_getElem? (i := 58) rfl))) (Or.inr (hw _ (List.mem_of_getElem? (i := 64) rfl))) (by decide) (t := (.object "java/lang/String")) (t' := (.object "java/lang/String")) (by decide) (by decide)))
  have f28 := f21.other W23 (Or.inr (slot_ne (Or.inr (hw _ (List.mem_of_getElem? (i := 60) rfl))) (Or.inr (hw _ (List.mem_of_getElem? (i := 64) rfl))) (by decide) (t := (.object "java/lang/String")) (t' := (.object "java/lang/String")) (by decide) (by decide)))
  have f29 := f17.other W23 (Or.inr (slot_ne (Or.inr (hw _ (List.mem_of_getElem? (i := 62) rfl))) (Or.inr (hw _ (List.mem_of_getElem? (i := 64) rfl))) (by decide) (t := (.object "com/example/time_for_trials/timefortrials/cli/Usage$Occurs")) (t' := (.object "java/lang/String")) (by decide) (by decide)))
  have N23 := Fr.snoc X23 N16 Pg1
  have Z23 := own_size_wr W23 Z16
  show own_Go _ _ _ _ (T23.setTop (mkF m 25 #[.val (.ref a1), .val (.ref r1), .val (.ref r2), .val (.ref r3), .val (.ref r4)] []))
  exact own_retV X23 hx Bd.notSynchronized e23 Bd.returns (hb hby d9_25) (⟨rfl, N23, f26, f28⟩) (by decide) (by decide)
set_option maxRecDepth 65536 in
set_option maxHeartbeats 40000000 in
theorem rm11_v (l : Launch) (Z : State) (a0 : Array Value) (hw : ∀ d ∈ tables_1, d.before a0 Z = true) (ws : List Jvm.Cond) (a1 : Addr) (r2 : Addr) (h0 : Heap) (n0 : Nat) (Z0 : n0 ≤ h0.size) (PF : Fld Z h0 a1 "com/example/time_for_trials/timefortrials/cli/Usage$Option" "value" "Ljava/lang/String;" (.ref r2)) :
    MetFree l (⟨"com/example/time_for_trials/timefortrials/cli/Usage$Option", "takesValue", "()Z"⟩ : MethodName) (head1 (Jvm.Cond.code (⟨"com/example/time_for_trials/timefortrials/cli/Usage$Option", "takesValue", "()Z"⟩ : MethodName) prog_9_method_2_code 1 (some .boolean) :: ws) ({ frames := 0, cells := 0, slots := 0, locals := 0 } : Room)) (fun a U => a = #[(.ref a1)] ∧ Z.Warmed39 U.vm ∧ U.heap = h0) (fun _ _ _ _ _ => True) (fun _ U o U' => ∃ vv LL, o = .returned vv ∧ own_ap (fun v h L => v = some (.int 1) ∧ Fr n0 L ∧ h = h0) vv U'.heap LL ∧ FrameEnd U o U' LL 0 0) := by
  refine MetFree.of_bodySF (plainFor_of_name pn_11) hisR ?_
  intro p e s m args below meth c s₁ Bd hml0 hP hK
  obtain ⟨rfl, hZ, hh⟩ := hP
  have hx := Bd.exec
  have hby := Bd.bytes
  have hml : c.maxLocals = 1 := hml0
  have hown : s.vm.findClass "com/example/time_for_trials/timefortrials/cli/Usage$Option" = some m.cls := findClass_of_methodNamed Bd.named
  have hnm := (name_of_methodNamed Bd.named Bd.method).1
  have X0 : Stand p l e ({ frames := 0, cells := 0, slots := 0, locals := 0 } : Room) s m #[(.ref a1)] below meth c s₁ [] 0 0 := Stand.of_body Bd
  have e0 : s₁.heap = h0 := by rw [← hh, Bd.state]; rfl
  have N0 := Fr.nil n0
  show own_Go p.tables e below (own_Q s (fun v h L => v = some (.int 1) ∧ Fr n0 L ∧ h = h0) 0 0) (s₁.setTop (entryFrame m #[(.ref a1)] 1))
  rw [show entryFrame m #[(.ref a1)] 1 = mkF m 0 #[.val (.ref a1)] [] from by first | (simp [entryFrame, mkF, argsToLocals, Value.category]; done) | rfl]
  show own_Go _ _ _ _ (s₁.setTop (mkF m 0 #[.val (.ref a1)] []))
  refine own_by (fun _ k => XS.aloadN X0.here hx rfl (hb hby d11_0) rfl rfl k) ?_
  show own_Go _ _ _ _ (s₁.setTop (mkF m 1 #[.val (.ref a1)] [(.ref a1)]))
  obtain ⟨T1, X1, e1, st1⟩ := getF X0 hx hZ hown (host := "") (Or.inl (hw _ (List.mem_of_getElem? (i := 59) rfl))) Via.refl e0 PF (g := (mkF m 1 #[.val (.ref a1)] [(.ref a1)])) rfl rfl (hb hby d11_1)
  refine own_by st1 ?_
  show own_Go _ _ _ _ (T1.setTop (mkF m 4 #[.val (.ref a1)] [(.ref r2)]))
  refine own_by (fun _ k => XS.ifnullNo X1.here hx rfl (hb hby d11_4) rfl k) ?_
  refine own_by (fun _ k => XS.iconst X1.here hx rfl (hb hby d11_7) k) ?_
  show own_Go _ _ _ _ (T1.setTop (mkF m 8 #[.val (.ref a1)] [(.int (1 : Int32))]))
  refine own_by (fun _ k => XS.goto X1.here hx rfl (pc0 := 8) (pc' := 12) rfl (hb hby d11_8) (by decide) (by decide) k) ?_
  show own_Go _ _ _ _ (T1.setTop (mkF m 12 #[.val (.ref a1)] [(.int (1 : Int32))]))
  exact own_retN X1 hx Bd.notSynchronized e1 Bd.returns (by simp) (hb hby d11_12) (⟨rfl, N0, rfl⟩) (by decide) (by decide)
set_option maxRecDepth 65536 in
set_option maxHeartbeats 40000000 in
theorem rm12 (l : Launch) (Z : State) (a0 : Array Value) (hw : ∀ d ∈ tables_1, d.before a0 Z = true) (ws : List Jvm.Cond) (r1 : Addr) (r4 : Addr) (b_AT_MOST_ONCE : Addr) (h0 : Heap) (n0 : Nat) (Z0 : n0 ≤ h0.size) (PS_AT_MOST_ONCE : Sta Z h0 "com/example/time_for_trials/timefortrials/cli/Usage$Occurs" "AT_MOST_ONCE" "Lcom/example/time_for_trials/timefortrials/cli/Usage$Occurs;" (.ref b_AT_MOST_ONCE)) :
    MetFree l (⟨"com/example/time_for_trials/timefortrials/cli/Usage", "flag", "(Ljava/lang/String;Ljava/lang/String;)Lcom/example/time_for_trials/timefortrials/cli/Usage$Option;"⟩ : MethodName) (head1 (Jvm.Cond.code (⟨"com/example/time_for_trials/timefortrials/cli/Usage", "flag", "(Ljava/lang/String;Ljava/lang/String;)Lcom/example/time_for_trials/timefortrials/cli/Usage$Option;"⟩ : MethodName) prog_6_method_2_code 2 (some (.object "com/example/time_for_trials/timefortrials/cli/Usage$Option")) :: ws) ({ frames := 3, cells := 1, slots := 4, locals := 45 } : Room)) (fun a U => a = #[(.ref r1), (.ref r4)] ∧ Z.Warmed39 U.vm ∧ U.heap = h0) (fun _ _ _ _ _ => True) (fun _ U o U' => ∃ vv LL, o = .returned vv ∧ own_ap (fun v h L => ∃ bb : Addr, v = some (.ref bb) ∧ Fr n0 L ∧ Keep h0 h [] ∧ Exa Z h bb "com/example/time_for_trials/timefortrials/cli/Usage$Option" ∧ Fld Z h bb "com/example/time_for_trials/timefortrials/cli/Usage$Option" "value" "Ljava/lang/String;" .null) vv U'.heap LL ∧ FrameEnd U o U' LL 1 4) := by
  refine MetFree.of_bodySF (plainFor_of_name pn_12) hisR ?_
  intro p e s m args below meth c s₁ Bd hml0 hP hK
  obtain ⟨rfl, hZ, hh⟩ := hP
  have hx := Bd.exec
  have hby := Bd.bytes
  have hml : c.maxLocals = 2 := hml0
  have hown : s.vm.findClass "com/example/time_for_trials/timefortrials/cli/Usage" = some m.cls := findClass_of_methodNamed Bd.named
  have hnm := (name_of_methodNamed Bd.named Bd.method).1
  have X0 : Stand p l e ({ frames := 3, cells := 1, slots := 4, locals := 45 } : Room) s m #[(.ref r1), (.ref r4)] below meth c s₁ [] 0 0 := Stand.of_body Bd
  have e0 : s₁.heap = h0 := by rw [← hh, Bd.state]; rfl
  have N0 := Fr.nil n0
  show own_Go p.tables e below (own_Q s (fun v h L => ∃ bb : Addr, v = some (.ref bb) ∧ Fr n0 L ∧ Keep h0 h [] ∧ Exa Z h bb "com/example/time_for_trials/timefortrials/cli/Usage$Option" ∧ Fld Z h bb "com/example/time_for_trials/timefortrials/cli/Usage$Option" "value" "Ljava/lang/String;" .null) 1 4) (s₁.setTop (entryFrame m #[(.ref r1), (.ref r4)] 2))
  rw [show entryFrame m #[(.ref r1), (.ref r4)] 2 = mkF m 0 #[.val (.ref r1), .val (.ref r4)] [] from by first | (simp [entryFrame, mkF, argsToLocals, Value.category]; done) | rfl]
  show own_Go _ _ _ _ (s₁.setTop (mkF m 0 #[.val (.ref r1), .val (.ref r4)] []))
  obtain ⟨T1, h1, X1, e1, E1, A1, D1, -, st1⟩ := newO X0 hx hZ hown (hw _ (List.mem_of_getElem? (i := 74) rfl)) (hw _ (List.mem_of_getElem? (i := 45) rfl)) (hw _ (List.mem_of_getElem? (i := 46) rfl)) e0 (g := (mkF m 0 #[.val (.ref r1), .val (.ref r4)] [])) rfl (hb hby d12_0) (by decide) (by decide)
  refine own_by st1 ?_
  show own_Go _ _ _ _ (T1.setTop (mkF m 3 #[.val (.ref r1), .val (.ref r4)] [.ref h0.size]))
  obtain ⟨b1, g1⟩ : ∃ z, z = h0.size := ⟨_, rfl⟩
  rw [← g1] at A1 D1
  refine own_gen g1.symm (fun z_ => T1.setTop (mkF m 3 #[.val (.ref r1), .val (.ref r4)] [.ref z_])) ?_
  have ge1 : n0 ≤ b1 := Nat.le_trans Z0 (Nat.le_of_eq g1.symm)
  have nw1 : h0.size ≤ b1 := Nat.le_trans (Keep.refl h0 []).1 (Nat.le_of_eq g1.symm)
  have f2 := PS_AT_MOST_ONCE.ext E1
  have f3 := (Keep.refl h0 []).ext E1
  have Z1 := Nat.le_trans Z0 E1.1
  have f4 : Fld Z h1 b1 "com/example/time_for_trials/timefortrials/cli/Usage$Option" "name" "Ljava/lang/String;" .null := D1 (Or.inr (hw _ (List.mem_of_getElem? (i := 58) rfl))) (ty := (.object "java/lang/String")) (by decide)
  have f5 : Fld Z h1 b1 "com/example/time_for_trials/timefortrials/cli/Usage$Option" "value" "Ljava/lang/String;" .null := D1 (Or.inr (hw _ (List.mem_of_getElem? (i := 60) rfl))) (ty := (.object "java/lang/String")) (by decide)
  have f6 : Fld Z h1 b1 "com/example/time_for_trials/timefortrials/cli/Usage$Option" "occurs" "Lcom/example/time_for_trials/timefortrials/cli/Usage$Occurs;" .null := D1 (Or.inr (hw _ (List.mem_of_getElem? (i := 62) rfl))) (ty := (.object "com/example/time_for_trials/timefortrials/cli/Usage$Occurs")) (by decide)
  have f7 : Fld Z h1 b1 "com/example/time_for_trials/timefortrials/cli/Usage$Option" "description" "Ljava/lang/String;" .null := D1 (Or.inr (hw _ (List.mem_of_getElem? (i := 64) rfl))) (ty := (.object "java/lang/String")) (by decide)
  show own_Go _ _ _ _ (T1.setTop (mkF m 3 #[.val (.ref r1), .val (.ref r4)] [(.ref b1)]))
  refine own_by (fun _ k => XS.dup X1.here hx rfl (hb hby d12_3) rfl rfl k) ?_
  refine own_by (fun _ k => XS.aloadN X1.here hx rfl (hb hby d12_4) rfl rfl k) ?_
  show own_Go _ _ _ _ (T1.setTop (mkF m 5 #[.val (.ref r1), .val (.ref r4)] [(.ref r1), (.ref b1), (.ref b1)]))
  refine own_by (fun _ k => XS.aconstNull X1.here hx rfl (hb hby d12_5) k) ?_
  show own_Go _ _ _ _ (T1.setTop (mkF m 6 #[.val (.ref r1), .val (.ref r4)] [.null, (.ref r1), (.ref b1), (.ref b1)]))
  obtain ⟨T8, X8, e8, st8⟩ := getS2 X1 hx hZ hown (host := "") (Or.inl (hw _ (List.mem_of_getElem? (i := 75) rfl))) Via.refl e1 f2 (g := (mkF m 6 #[.val (.ref r1), .val (.ref r4)] [.null, (.ref r1), (.ref b1), (.ref b1)])) rfl (hb hby d12_6)
  refine own_by st8 ?_
  refine own_by (fun _ k => XS.aloadN X8.here hx rfl (hb hby d12_9) rfl rfl k) ?_
  show own_Go _ _ _ _ (T8.setTop (mkF m 10 #[.val (.ref r1), .val (.ref r4)] [(.ref r4), (.ref b_AT_MOST_ONCE), .null, (.ref r1), (.ref b1), (.ref b1)]))
  refine own_callI X8 hx hZ hown rfl (hw _ (List.mem_of_getElem? (i := 77) rfl)) (hw _ (List.mem_of_getElem? (i := 49) rfl)) (hw _ (List.mem_of_getElem? (i := 46) rfl)) (hw _ (List.mem_of_getElem? (i := 50) rfl)) (by decide) (rm9_n l Z a0 hw [] b1 r1 b_AT_MOST_ONCE r4 h1 n0 Z1 A1 f4 f5 f6 f7 ge1) e8 (by rw [hml]; rfl) b1 [(.ref r1), .null, (.ref b_AT_MOST_ONCE), (.ref r4)] [(.ref b1)] rfl (lenOf own_pd9 rfl) rfl 1 (Nat.le_of_eq rfl) (by decide) (by decide) (Nat.le_of_ble_eq_true rfl) (Nat.le_of_ble_eq_true rfl) (hb hby d12_10) ?_
  intro T9 Lc9 v9 X9 hQ9
  obtain ⟨h9, e9⟩ : ∃ h, T9.heap = h := ⟨_, rfl⟩
  rw [e9] at hQ9
  obtain ⟨rfl, N9q, K9, FO9⟩ := hQ9
  have N9 := Fr.app N0 N9q
  have f10 := own_sta_keep f2 K9 (nsS A1.nostat ns0)
  have f11 := f3.trans K9 (allS (P := fun x => x ∈ [] ∨ h0.size ≤ x) (Or.inr nw1) all0)
  have f12 := A1.keep K9
  have Z9 := Nat.le_trans Z1 K9.1
  show own_Go _ _ _ _ (T9.setTop (mkF m 13 #[.val (.ref r1), .val (.ref r4)] [(.ref b1)]))
  exact own_retA X9 hx Bd.notSynchronized e9 Bd.returns rfl rfl rfl (hb hby d12_13) (⟨_, rfl, N9, f11, f12, FO9⟩) (by decide) (by decide)
set_option maxRecDepth 65536 in
set_option maxHeartbeats 40000000 in
theorem rm0 (l : Launch) (Z : State) (a0 : Array Value) (hw : ∀ d ∈ tables_1, d.before a0 Z = true) (ws : List Jvm.Cond) (p1 : Int32) (p2 : Int32) (p3 : Int32) (b_ONCE b_AT_MOST_ONCE b_AT_LEAST_ONCE b_ANY_NUMBER : Addr) (cs : Int32) (h0 : Heap) (n0 : Nat) (Z0 : n0 ≤ h0.size) (PS_ONCE : Sta Z h0 "com/example/time_for_trials/timefortrials/cli/Usage$Occurs" "ONCE" "Lcom/example/time_for_trials/timefortrials/cli/Usage$Occurs;" (.ref b_ONCE)) (PS_AT_MOST_ONCE : Sta Z h0 "com/example/time_for_trials/timefortrials/cli/Usage$Occurs" "AT_MOST_ONCE" "Lcom/example/time_for_trials/timefortrials/cli/Usage$Occurs;" (.ref b_AT_MOST_ONCE)) (PS_AT_LEAST_ONCE : Sta Z h0 "com/example/time_for_trials/timefortrials/cli/Usage$Occurs" "AT_LEAST_ONCE" "Lcom/example/time_for_trials/timefortrials/cli/Usage$Occurs;" (.ref b_AT_LEAST_ONCE)) (PS_ANY_NUMBER : Sta Z h0 "com/example/time_for_trials/timefortrials/cli/Usage$Occurs" "ANY_NUMBER" "Lcom/example/time_for_trials/timefortrials/cli/Usage$Occurs;" (.ref b_ANY_NUMBER)) (PS : Sta Z h0 "java/lang/String" "COMPACT_STRINGS" "Z" (.int cs)) (Pcs : ¬ cs = 0) (Pk : ∀ (b : Addr) (cl : Cell), Z.heap[b]? = some cl → h0[b]? = some cl) (Ph : Jvm.Lit.constHeld Z "java/lang/String" 7) (Pc : Jvm.Lit.compactW.before a0 Z = true) :
    MetFree l x (head1 (Jvm.Cond.code x code maxLocals ret :: ws) room_1) (fun a U => a = #[(.int p1), (.int p2), (.int p3)] ∧ Z.Warmed39 U.vm ∧ U.heap = h0 ∧ U.vm.interned = Z.vm.interned) (fun _ _ _ _ _ => True) (fun _ U o U' => ∃ vv LL, o = .returned vv ∧ own_ap (fun v h L => v = some (.int 1) ∧ Fr n0 L) vv U'.heap LL ∧ ReturnedEndW U o U' LL 32 2176) := by
  refine MetFree.of_bodySF (plainFor_of_name pn_0) hisR ?_
  intro p e s m args below meth c s₁ Bd hml0 hP hK
  obtain ⟨rfl, hZ, hh, I0⟩ := hP
  have hx := Bd.exec
  have hby := Bd.bytes
  have hml : c.maxLocals = 15 := hml0
  have hown : s.vm.findClass "com/example/time_for_trials/timefortrials/cli/OptionTakesValuePinLaw" = some m.cls := findClass_of_methodNamed Bd.named
  have hnm := (name_of_methodNamed Bd.named Bd.method).1
  have X0 : Stand p l e room_1 (s.setVm s.vm) m #[(.int p1), (.int p2), (.int p3)] below meth c s₁ [] 0 0 := Stand.of_body Bd
  have e0 : s₁.heap = h0 := by rw [← hh, Bd.state]; rfl
  have N0 := Fr.nil n0
  have hZ : Z.Warmed39 (s.setVm s.vm).vm := hZ
  have hown : (s.setVm s.vm).vm.findClass "com/example/time_for_trials/timefortrials/cli/OptionTakesValuePinLaw" = some m.cls := hown
  have hS0 : s.Since s.vm 0 := (State.WarmedH.refl s).since 0
  have k0 : 0 ≤ h0.size := Nat.zero_le _
  show own_Go p.tables e below (own_QW s (fun v h L => v = some (.int 1) ∧ Fr n0 L) 32 2176) (s₁.setTop (entryFrame m #[(.int p1), (.int p2), (.int p3)] maxLocals))
  rw [show entryFrame m #[(.int p1), (.int p2), (.int p3)] maxLocals = mkF m 0 #[.val (.int p1), .val (.int p2), .val (.int p3), .unset, .unset, .unset, .unset, .unset, .unset, .unset, .unset, .unset, .unset, .unset, .unset] [] from by first | (simp [entryFrame, mkF, argsToLocals, Value.category, maxLocals]; done) | rfl]
  show own_Go _ _ _ _ (s₁.setTop (mkF m 0 #[.val (.int p1), .val (.int p2), .val (.int p3), .unset, .unset, .unset, .unset, .unset, .unset, .unset, .unset, .unset, .unset, .unset, .unset] []))
  refine own_by (fun _ k => XS.iloadN X0.here hx rfl (hb hby at_0) rfl k) ?_
  refine own_by (fun _ k => XS.iconst X0.here hx rfl (hb hby at_1) k) ?_
  show own_Go _ _ _ _ (s₁.setTop (mkF m 2 #[.val (.int p1), .val (.int p2), .val (.int p3), .unset, .unset, .unset, .unset, .unset, .unset, .unset, .unset, .unset, .unset, .unset, .unset] [(.int (1 : Int32)), (.int p1)]))
  refine own_by (fun _ k => XS.iand X0.here hx rfl (hb hby at_2) rfl k) ?_
  show own_Go _ _ _ _ (s₁.setTop (mkF m 3 #[.val (.int p1), .val (.int p2), .val (.int p3), .unset, .unset, .unset, .unset, .unset, .unset, .unset, .unset, .unset, .unset, .unset, .unset] [(.int (p1 &&& (1 : Int32)))]))
  by_cases hc1 : (p1 &&& (1 : Int32)) = (0 : Int32)
  · --
    refine own_by (fun _ k => XS.ifYes X0.here hx rfl (pc0 := 3) (pc' := 10) rfl (hb hby at_3) rfl ((if0 _ _).trans (teq hc1).1) (by decide) (by decide) k) ?_
    refine own_by (fun _ k => XS.iconst X0.here hx rfl (hb hby at_10) k) ?_
    show own_Go _ _ _ _ (s₁.setTop (mkF m 11 #[.val (.int p1), .val (.int p2), .val (.int p3), .unset, .unset, .unset, .unset, .unset, .unset, .unset, .unset, .unset, .unset, .unset, .unset] [(.int (0 : Int32))]))
    refine own_by (fun _ k => XS.istoreN X0.here hx rfl (hb hby at_11) rfl (l' := #[.val (.int p1), .val (.int p2), .val (.int p3), .val (.int (0 : Int32)), .unset, .unset, .unset, .unset, .unset, .unset, .unset, .unset, .unset, .unset, .unset]) rfl k) ?_
    refine own_by (fun _ k => XS.iloadN X0.here hx rfl (hb hby at_12) rfl k) ?_
    refine own_by (fun _ k => XS.iconst X0.here hx rfl (hb hby at_13) k) ?_
    show own_Go _ _ _ _ (s₁.setTop (mkF m 14 #[.val (.int p1), .val (.int p2), .val (.int p3), .val (.int (0 : Int32)), .unset, .unset, .unset, .unset, .unset, .unset, .unset, .unset, .unset, .unset, .unset] [(.int (1 : Int32)), (.int p1)]))
    refine own_by (fun _ k => XS.iushr X0.here hx rfl (hb hby at_14) rfl k) ?_
    refine own_by (fun _ k => XS.iconst X0.here hx rfl (hb hby at_15) k) ?_
    show own_Go _ _ _ _ (s₁.setTop (mkF m 16 #[.val (.int p1), .val (.int p2), .val (.int p3), .val (.int (0 : Int32)), .unset, .unset, .unset, .unset, .unset, .unset, .unset, .unset, .unset, .unset, .unset] [(.int (3 : Int32)), (.int ((p1.toUInt32 >>> ((1 : Int32) &&& 31).toUInt32).toInt32))]))
    refine own_by (fun _ k => XS.iand X0.here hx rfl (hb hby at_16) rfl k) ?_
    show own_Go _ _ _ _ (s₁.setTop (mkF m 17 #[.val (.int p1), .val (.int p2), .val (.int p3), .val (.int (0 : Int32)), .unset, .unset, .unset, .unset, .unset, .unset, .unset, .unset, .unset, .unset, .unset] [(.int (((p1.toUInt32 >>> ((1 : Int32) &&& 31).toUInt32).toInt32) &&& (3 : Int32)))]))
    obtain ⟨v4_2, hv4_2⟩ : ∃ z_ : Int32, (((p1.toUInt32 >>> ((1 : Int32) &&& 31).toUInt32).toInt32) &&& (3 : Int32)) = z_ := ⟨_, rfl⟩
    refine own_gen hv4_2 (fun z_ => s₁.setTop (mkF m 17 #[.val (.int p1), .val (.int p2), .val (.int p3), .val (.int (0 : Int32)), .unset, .unset, .unset, .unset, .unset, .unset, .unset, .unset, .unset, .unset, .unset] [(.int z_)])) ?_
    refine own_by (fun _ k => XS.istore X0.here hx rfl (hb hby at_17) rfl (l' := #[.val (.int p1), .val (.int p2), .val (.int p3), .val (.int (0 : Int32)), .val (.int v4_2), .unset, .unset, .unset, .unset, .unset, .unset, .unset, .unset, .unset, .unset]) rfl k) ?_
    refine own_by (fun _ k => XS.iloadN X0.here hx rfl (hb hby at_19) rfl k) ?_
    refine own_by (fun _ k => XS.iconst X0.here hx rfl (hb hby at_20) k) ?_
    show own_Go _ _ _ _ (s₁.setTop (mkF m 21 #[.val (.int p1), .val (.int p2), .val (.int p3), .val (.int (0 : Int32)), .val (.int v4_2), .unset, .unset, .unset, .unset, .unset, .unset, .unset, .unset, .unset, .unset] [(.int (3 : Int32)), (.int p1)]))
    refine own_by (fun _ k => XS.iushr X0.here hx rfl (hb hby at_21) rfl k) ?_
    refine own_by (fun _ k => XS.iconst X0.here hx rfl (hb hby at_22) k) ?_
    show own_Go _ _ _ _ (s₁.setTop (mkF m 23 #[.val (.int p1), .val (.int p2), .val (.int p3), .val (.int (0 : Int32)), .val (.int v4_2), .unset, .unset, .unset, .unset, .unset, .unset, .unset, .unset, .unset, .unset] [(.int (3 : Int32)), (.int ((p1.toUInt32 >>> ((3 : Int32) &&& 31).toUInt32).toInt32))]))
    refine own_by (fun _ k => XS.iand X0.here hx rfl (hb hby at_23) rfl k) ?_
    show own_Go _ _ _ _ (s₁.setTop (mkF m 24 #[.val (.int p1), .val (.int p2), .val (.int p3), .val (.int (0 : Int32)), .val (.int v4_2), .unset, .unset, .unset, .unset, .unset, .unset, .unset, .unset, .unset, .unset] [(.int (((p1.toUInt32 >>> ((3 : Int32) &&& 31).toUInt32).toInt32) &&& (3 : Int32)))]))
    obtain ⟨v5_3, hv5_3⟩ : ∃ z_ : Int32, (((p1.toUInt32 >>> ((3 : Int32) &&& 31).toUInt32).toInt32) &&& (3 : Int32)) = z_ := ⟨_, rfl⟩
    refine own_gen hv5_3 (fun z_ => s₁.setTop (mkF m 24 #[.val (.int p1), .val (.int p2), .val (.int p3), .val (.int (0 : Int32)), .val (.int v4_2), .unset, .unset, .unset, .unset, .unset, .unset, .unset, .unset, .unset, .unset] [(.int z_)])) ?_
    refine own_by (fun _ k => XS.istore X0.here hx rfl (hb hby at_24) rfl (l' := #[.val (.int p1), .val (.int p2), .val (.int p3), .val (.int (0 : Int32)), .val (.int v4_2), .val (.int v5_3), .unset, .unset, .unset, .unset, .unset, .unset, .unset, .unset, .unset]) rfl k) ?_
    refine own_by (fun _ k => XS.iload X0.here hx rfl (hb hby at_26) rfl k) ?_
    show own_Go _ _ _ _ (s₁.setTop (mkF m 28 #[.val (.int p1), .val (.int p2), .val (.int p3), .val (.int (0 : Int32)), .val (.int v4_2), .val (.int v5_3), .unset, .unset, .unset, .unset, .unset, .unset, .unset, .unset, .unset] [(.int v5_3)]))
    refine own_callS X0 hx hZ hown (hw _ (List.mem_of_getElem? (i := 0) rfl)) (hw _ (List.mem_of_getElem? (i := 1) rfl)) (hw _ (List.mem_of_getElem? (i := 2) rfl)) (hw _ (List.mem_of_getElem? (i := 3) rfl)) (by decide) (rm1 l Z a0 hw [] v5_3 b_ONCE b_AT_MOST_ONCE b_AT_LEAST_ONCE b_ANY_NUMBER h0 n0 Z0 PS_ONCE PS_AT_MOST_ONCE PS_AT_LEAST_ONCE PS_ANY_NUMBER) e0 (by rw [hml]; rfl) [(.int v5_3)] [] rfl (lenOf own_pd1 rfl) rfl 0 (Nat.le_of_eq rfl) (by decide) (by decide) (Nat.le_of_ble_eq_true rfl) (Nat.le_of_ble_eq_true rfl) (hb hby at_28) ?_
    intro T4 Lc4 v4 X4 hQ4
    obtain ⟨bo4, rfl, N4q, e4⟩ := hQ4
    have N4 := Fr.app N0 N4q
    show own_Go _ _ _ _ (T4.setTop (mkF m 31 #[.val (.int p1), .val (.int p2), .val (.int p3), .val (.int (0 : Int32)), .val (.int v4_2), .val (.int v5_3), .unset, .unset, .unset, .unset, .unset, .unset, .unset, .unset, .unset] [(.ref bo4)]))
    refine own_by (fun _ k => XS.astore X4.here hx rfl (hb hby at_31) rfl rfl (l' := #[.val (.int p1), .val (.int p2), .val (.int p3), .val (.int (0 : Int32)), .val (.int v4_2), .val (.int v5_3), .val (.ref bo4), .unset, .unset, .unset, .unset, .unset, .unset, .unset, .unset]) rfl k) ?_
    refine own_by (fun _ k => XS.iloadN X4.here hx rfl (hb hby at_33) rfl k) ?_
    refine own_by (fun _ k => XS.sipush X4.here hx rfl (hb hby at_34) k) ?_
    show own_Go _ _ _ _ (T4.setTop (mkF m 37 #[.val (.int p1), .val (.int p2), .val (.int p3), .val (.int (0 : Int32)), .val (.int v4_2), .val (.int v5_3), .val (.ref bo4), .unset, .unset, .unset, .unset, .unset, .unset, .unset, .unset] [(.int (255 : Int32)), (.int p2)]))
    refine own_by (fun _ k => XS.iand X4.here hx rfl (hb hby at_37) rfl k) ?_
    show own_Go _ _ _ _ (T4.setTop (mkF m 38 #[.val (.int p1), .val (.int p2), .val (.int p3), .val (.int (0 : Int32)), .val (.int v4_2), .val (.int v5_3), .val (.ref bo4), .unset, .unset, .unset, .unset, .unset, .unset, .unset, .unset] [(.int (p2 &&& (255 : Int32)))]))
    refine own_by (fun _ k => XS.i2c X4.here hx rfl (hb hby at_38) rfl k) ?_
    show own_Go _ _ _ _ (T4.setTop (mkF m 39 #[.val (.int p1), .val (.int p2), .val (.int p3), .val (.int (0 : Int32)), .val (.int v4_2), .val (.int v5_3), .val (.ref bo4), .unset, .unset, .unset, .unset, .unset, .unset, .unset, .unset] [(.int ((p2 &&& (255 : Int32)).toUInt32.toUInt16.toUInt32.toInt32))]))
    obtain ⟨v7_5, hv7_5⟩ : ∃ z_ : Int32, ((p2 &&& (255 : Int32)).toUInt32.toUInt16.toUInt32.toInt32) = z_ := ⟨_, rfl⟩
    refine own_gen hv7_5 (fun z_ => T4.setTop (mkF m 39 #[.val (.int p1), .val (.int p2), .val (.int p3), .val (.int (0 : Int32)), .val (.int v4_2), .val (.int v5_3), .val (.ref bo4), .unset, .unset, .unset, .unset, .unset, .unset, .unset, .unset] [(.int z_)])) ?_
    refine own_by (fun _ k => XS.istore X4.here hx rfl (hb hby at_39) rfl (l' := #[.val (.int p1), .val (.int p2), .val (.int p3), .val (.int (0 : Int32)), .val (.int v4_2), .val (.int v5_3), .val (.ref bo4), .val (.int v7_5), .unset, .unset, .unset, .unset, .unset, .unset, .unset]) rfl k) ?_
    refine own_by (fun _ k => XS.iloadN X4.here hx rfl (hb hby at_41) rfl k) ?_
    refine own_by (fun _ k => XS.bipush X4.here hx rfl (hb hby at_42) k) ?_
    show own_Go _ _ _ _ (T4.setTop (mkF m 44 #[.val (.int p1), .val (.int p2), .val (.int p3), .val (.int (0 : Int32)), .val (.int v4_2), .val (.int v5_3), .val (.ref bo4), .val (.int v7_5), .unset, .unset, .unset, .unset, .unset, .unset, .unset] [(.int (8 : Int32)), (.int p2)]))
    refine own_by (fun _ k => XS.iushr X4.here hx rfl (hb hby at_44) rfl k) ?_
    refine own_by (fun _ k => XS.sipush X4.here hx rfl (hb hby at_45) k) ?_
    show own_Go _ _ _ _ (T4.setTop (mkF m 48 #[.val (.int p1), .val (.int p2), .val (.int p3), .val (.int (0 : Int32)), .val (.int v4_2), .val (.int v5_3), .val (.ref bo4), .val (.int v7_5), .unset, .unset, .unset, .unset, .unset, .unset, .unset] [(.int (255 : Int32)), (.int ((p2.toUInt32 >>> ((8 : Int32) &&& 31).toUInt32).toInt32))]))
    refine own_by (fun _ k => XS.iand X4.here hx rfl (hb hby at_48) rfl k) ?_
    show own_Go _ _ _ _ (T4.setTop (mkF m 49 #[.val (.int p1), .val (.int p2), .val (.int p3), .val (.int (0 : Int32)), .val (.int v4_2), .val (.int v5_3), .val (.ref bo4), .val (.int v7_5), .unset, .unset, .unset, .unset, .unset, .unset, .unset] [(.int (((p2.toUInt32 >>> ((8 : Int32) &&& 31).toUInt32).toInt32) &&& (255 : Int32)))]))
    refine own_by (fun _ k => XS.i2c X4.here hx rfl (hb hby at_49) rfl k) ?_
    show own_Go _ _ _ _ (T4.setTop (mkF m 50 #[.val (.int p1), .val (.int p2), .val (.int p3), .val (.int (0 : Int32)), .val (.int v4_2), .val (.int v5_3), .val (.ref bo4), .val (.int v7_5), .unset, .unset, .unset, .unset, .unset, .unset, .unset] [(.int ((((p2.toUInt32 >>> ((8 : Int32) &&& 31).toUInt32).toInt32) &&& (255 : Int32)).toUInt32.toUInt16.toUInt32.toInt32))]))
    obtain ⟨v8_6, hv8_6⟩ : ∃ z_ : Int32, ((((p2.toUInt32 >>> ((8 : Int32) &&& 31).toUInt32).toInt32) &&& (255 : Int32)).toUInt32.toUInt16.toUInt32.toInt32) = z_ := ⟨_, rfl⟩
    refine own_gen hv8_6 (fun z_ => T4.setTop (mkF m 50 #[.val (.int p1), .val (.int p2), .val (.int p3), .val (.int (0 : Int32)), .val (.int v4_2), .val (.int v5_3), .val (.ref bo4), .val (.int v7_5), .unset, .unset, .unset, .unset, .unset, .unset, .unset] [(.int z_)])) ?_
    refine own_by (fun _ k => XS.istore X4.here hx rfl (hb hby at_50) rfl (l' := #[.val (.int p1), .val (.int p2), .val (.int p3), .val (.int (0 : Int32)), .val (.int v4_2), .val (.int v5_3), .val (.ref bo4), .val (.int v7_5), .val (.int v8_6), .unset, .unset, .unset, .unset, .unset, .unset]) rfl k) ?_
    refine own_by (fun _ k => XS.iloadN X4.here hx rfl (hb hby at_52) rfl k) ?_
    refine own_by (fun _ k => XS.sipush X4.here hx rfl (hb hby at_53) k) ?_
    show own_Go _ _ _ _ (T4.setTop (mkF m 56 #[.val (.int p1), .val (.int p2), .val (.int p3), .val (.int (0 : Int32)), .val (.int v4_2), .val (.int v5_3), .val (.ref bo4), .val (.int v7_5), .val (.int v8_6), .unset, .unset, .unset, .unset, .unset, .unset] [(.int (255 : Int32)), (.int p3)]))
    refine own_by (fun _ k => XS.iand X4.here hx rfl (hb hby at_56) rfl k) ?_
    show own_Go _ _ _ _ (T4.setTop (mkF m 57 #[.val (.int p1), .val (.int p2), .val (.int p3), .val (.int (0 : Int32)), .val (.int v4_2), .val (.int v5_3), .val (.ref bo4), .val (.int v7_5), .val (.int v8_6), .unset, .unset, .unset, .unset, .unset, .unset] [(.int (p3 &&& (255 : Int32)))]))
    refine own_by (fun _ k => XS.i2c X4.here hx rfl (hb hby at_57) rfl k) ?_
    show own_Go _ _ _ _ (T4.setTop (mkF m 58 #[.val (.int p1), .val (.int p2), .val (.int p3), .val (.int (0 : Int32)), .val (.int v4_2), .val (.int v5_3), .val (.ref bo4), .val (.int v7_5), .val (.int v8_6), .unset, .unset, .unset, .unset, .unset, .unset] [(.int ((p3 &&& (255 : Int32)).toUInt32.toUInt16.toUInt32.toInt32))]))
    obtain ⟨v9_7, hv9_7⟩ : ∃ z_ : Int32, ((p3 &&& (255 : Int32)).toUInt32.toUInt16.toUInt32.toInt32) = z_ := ⟨_, rfl⟩
    refine own_gen hv9_7 (fun z_ => T4.setTop (mkF m 58 #[.val (.int p1), .val (.int p2), .val (.int p3), .val (.int (0 : Int32)), .val (.int v4_2), .val (.int v5_3), .val (.ref bo4), .val (.int v7_5), .val (.int v8_6), .unset, .unset, .unset, .unset, .unset, .unset] [(.int z_)])) ?_
    refine own_by (fun _ k => XS.istore X4.here hx rfl (hb hby at_58) rfl (l' := #[.val (.int p1), .val (.int p2), .val (.int p3), .val (.int (0 : Int32)), .val (.int v4_2), .val (.int v5_3), .val (.ref bo4), .val (.int v7_5), .val (.int v8_6), .val (.int v9_7), .unset, .unset, .unset, .unset, .unset]) rfl k) ?_
    refine own_by (fun _ k => XS.iloadN X4.here hx rfl (hb hby at_60) rfl k) ?_
    show own_Go _ _ _ _ (T4.setTop (mkF m 61 #[.val (.int p1), .val (.int p2), .val (.int p3), .val (.int (0 : Int32)), .val (.int v4_2), .val (.int v5_3), .val (.ref bo4), .val (.int v7_5), .val (.int v8_6), .val (.int v9_7), .unset, .unset, .unset, .unset, .unset] [(.int (0 : Int32))]))
    refine own_by (fun _ k => XS.ifYes X4.here hx rfl (pc0 := 61) (pc' := 70) rfl (hb hby at_61) rfl ((if0 _ _).trans (teq (by decide)).1) (by decide) (by decide) k) ?_
    refine own_by (fun _ k => XS.iload X4.here hx rfl (hb hby at_70) rfl k) ?_
    show own_Go _ _ _ _ (T4.setTop (mkF m 72 #[.val (.int p1), .val (.int p2), .val (.int p3), .val (.int (0 : Int32)), .val (.int v4_2), .val (.int v5_3), .val (.ref bo4), .val (.int v7_5), .val (.int v8_6), .val (.int v9_7), .unset, .unset, .unset, .unset, .unset] [(.int v4_2)]))
    by_cases hc8 : v4_2 = (0 : Int32)
    · --
      refine own_by (fun _ k => XS.ifNo X4.here hx rfl (hb hby at_72) rfl ((if0 _ _).trans (teq hc8).2) k) ?_
      show own_Go _ _ _ _ (T4.setTop (mkF m 75 #[.val (.int p1), .val (.int p2), .val (.int p3), .val (.int (0 : Int32)), .val (.int v4_2), .val (.int v5_3), .val (.ref bo4), .val (.int v7_5), .val (.int v8_6), .val (.int v9_7), .unset, .unset, .unset, .unset, .unset] []))
      obtain ⟨T9, h9, X9, e9, E9, A9, D9, -, st9⟩ := newO X4 hx hZ hown (hw _ (List.mem_of_getElem? (i := 7) rfl)) (hw _ (List.mem_of_getElem? (i := 8) rfl)) (hw _ (List.mem_of_getElem? (i := 9) rfl)) e4 (g := (mkF m 75 #[.val (.int p1), .val (.int p2), .val (.int p3), .val (.int (0 : Int32)), .val (.int v4_2), .val (.int v5_3), .val (.ref bo4), .val (.int v7_5), .val (.int v8_6), .val (.int v9_7), .unset, .unset, .unset, .unset, .unset] [])) rfl (hb hby at_75) (by decide) (by decide)
      refine own_by st9 ?_
      show own_Go _ _ _ _ (T9.setTop (mkF m 78 #[.val (.int p1), .val (.int p2), .val (.int p3), .val (.int (0 : Int32)), .val (.int v4_2), .val (.int v5_3), .val (.ref bo4), .val (.int v7_5), .val (.int v8_6), .val (.int v9_7), .unset, .unset, .unset, .unset, .unset] [.ref h0.size]))
      obtain ⟨b9, g9⟩ : ∃ z, z = h0.size := ⟨_, rfl⟩
      rw [← g9] at A9 D9
      refine own_gen g9.symm (fun z_ => T9.setTop (mkF m 78 #[.val (.int p1), .val (.int p2), .val (.int p3), .val (.int (0 : Int32)), .val (.int v4_2), .val (.int v5_3), .val (.ref bo4), .val (.int v7_5), .val (.int v8_6), .val (.int v9_7), .unset, .unset, .unset, .unset, .unset] [.ref z_])) ?_
      have ge9 : n0 ≤ b9 := Nat.le_trans Z0 (Nat.le_of_eq g9.symm)
      have nw9 : h0.size ≤ b9 := Nat.le_trans (Keep.refl h0 []).1 (Nat.le_of_eq g9.symm)
      have f10 := PS_ONCE.ext E9
      have f11 := PS_AT_MOST_ONCE.ext E9
      have f12 := PS_AT_LEAST_ONCE.ext E9
      have f13 := PS_ANY_NUMBER.ext E9
      have f14 := PS.ext E9
      have f15 := (Keep.refl h0 []).ext E9
      have Z9 := Nat.le_trans Z0 E9.1
      have ks9 := Nat.le_trans k0 E9.1
      have f16 : Fld Z h9 b9 "java/lang/String" "value" "[B" .null := D9 (Or.inr (hw _ (List.mem_of_getElem? (i := 23) rfl))) (ty := (.array .byte)) (by decide)
      have f17 : Fld Z h9 b9 "java/lang/String" "coder" "B" (.int (0 : Int32)) := D9 (Or.inr (hw _ (List.mem_of_getElem? (i := 24) rfl))) (ty := .byte) (by decide)
      show own_Go _ _ _ _ (T9.setTop (mkF m 78 #[.val (.int p1), .val (.int p2), .val (.int p3), .val (.int (0 : Int32)), .val (.int v4_2), .val (.int v5_3), .val (.ref bo4), .val (.int v7_5), .val (.int v8_6), .val (.int v9_7), .unset, .unset, .unset, .unset, .unset] [(.ref b9)]))
      refine own_by (fun _ k => XS.dup X9.here hx rfl (hb hby at_78) rfl rfl k) ?_
      refine own_by (fun _ k => XS.iconst X9.here hx rfl (hb hby at_79) k) ?_
      show own_Go _ _ _ _ (T9.setTop (mkF m 80 #[.val (.int p1), .val (.int p2), .val (.int p3), .val (.int (0 : Int32)), .val (.int v4_2), .val (.int v5_3), .val (.ref bo4), .val (.int v7_5), .val (.int v8_6), .val (.int v9_7), .unset, .unset, .unset, .unset, .unset] [(.int (0 : Int32)), (.ref b9), (.ref b9)]))
      refine own_newP X9 hx hZ (hw _ (List.mem_of_getElem? (i := 10) rfl)) e9 0 (by decide) 0 (by decide) (by decide) (by decide) (by decide) (hb hby at_80) ?_
      intro T18 h18 X18 e18 E18 A18
      show own_Go _ _ _ _ (T18.setTop (mkF m 82 #[.val (.int p1), .val (.int p2), .val (.int p3), .val (.int (0 : Int32)), .val (.int v4_2), .val (.int v5_3), .val (.ref bo4), .val (.int v7_5), .val (.int v8_6), .val (.int v9_7), .unset, .unset, .unset, .unset, .unset] [.ref h9.size, (.ref b9), (.ref b9)]))
      obtain ⟨b18, g18⟩ : ∃ z, z = h9.size := ⟨_, rfl⟩
      rw [← g18] at A18
      refine own_gen g18.symm (fun z_ => T18.setTop (mkF m 82 #[.val (.int p1), .val (.int p2), .val (.int p3), .val (.int (0 : Int32)), .val (.int v4_2), .val (.int v5_3), .val (.ref bo4), .val (.int v7_5), .val (.int v8_6), .val (.int v9_7), .unset, .unset, .unset, .unset, .unset] [.ref z_, (.ref b9), (.ref b9)])) ?_
      have ne19 : b9 ≠ b18 := Nat.ne_of_lt (Nat.lt_of_lt_of_le A9.lt (Nat.le_of_eq g18.symm))
      have ge18 : n0 ≤ b18 := Nat.le_trans Z9 (Nat.le_of_eq g18.symm)
      have nw18 : h0.size ≤ b18 := Nat.le_trans f15.1 (Nat.le_of_eq g18.symm)
      have f20 := f10.ext E18
      have f21 := f11.ext E18
      have f22 := f12.ext E18
      have f23 := f13.ext E18
      have f24 := f14.ext E18
      have f25 := f15.ext E18
      have f26 := A9.ext E18
      have f27 := f16.ext E18
      have f28 := f17.ext E18
      have Z18 := Nat.le_trans Z9 E18.1
      have ks18 := Nat.le_trans ks9 E18.1
      have f29 : own_AI Z h18 b18 .char 0 (fun _ => 0) := A18
      show own_Go _ _ _ _ (T18.setTop (mkF m 82 #[.val (.int p1), .val (.int p2), .val (.int p3), .val (.int (0 : Int32)), .val (.int v4_2), .val (.int v5_3), .val (.ref bo4), .val (.int v7_5), .val (.int v8_6), .val (.int v9_7), .unset, .unset, .unset, .unset, .unset] [(.ref b18), (.ref b9), (.ref b9)]))
      refine own_callIW X18 hx hZ hown rfl (hw _ (List.mem_of_getElem? (i := 11) rfl)) (hw _ (List.mem_of_getElem? (i := 12) rfl)) (hw _ (List.mem_of_getElem? (i := 9) rfl)) (hw _ (List.mem_of_getElem? (i := 13) rfl)) (by decide) I0 hS0 ks18 (rm2_0 l Z a0 hw [] b9 b18 (fun _ => 0) h18 n0 Z18 f26 f27 f28 ge9 (fun b cl q => f25.2.1 _ _ (Pk b cl q) (by simp)) Ph Pc f29) e18 (by rw [hml]; rfl) b9 [(.ref b18)] [(.ref b9)] rfl (lenOf own_pd2 rfl) rfl 1 (Nat.le_of_eq rfl) (by decide) (by decide) (Nat.le_of_ble_eq_true rfl) (Nat.le_of_ble_eq_true rfl) (hb hby at_82) ?_
      intro T30 Lc30 v30 X30 hS30 hZ hown hQ30
      obtain ⟨h30, e30⟩ : ∃ h, T30.heap = h := ⟨_, rfl⟩
      rw [e30] at hQ30
      obtain ⟨rfl, N30q, K30⟩ := hQ30
      have N30 := Fr.app N4 N30q
      have f31 := own_sta_keep f20 K30 (nsS f26.nostat ns0)
      have f32 := own_sta_keep f21 K30 (nsS f26.nostat ns0)
      have f33 := own_sta_keep f22 K30 (nsS f26.nostat ns0)
      have f34 := own_sta_keep f23 K30 (nsS f26.nostat ns0)
      have f35 := own_sta_keep f24 K30 (nsS f26.nostat ns0)
      have f36 := f25.trans K30 (allS (P := fun x => x ∈ [] ∨ h0.size ≤ x) (Or.inr nw9) all0)
      have f37 := f26.keep K30
      have f40 := f29.keep K30 (ninS (Ne.symm ne19) nin0)
      have Z30 := Nat.le_trans Z18 K30.1
      have ks30 : T30.heap.size ≤ h30.size := Nat.le_of_eq (by rw [e30])
      show own_Go _ _ _ _ (T30.setTop (mkF m 85 #[.val (.int p1), .val (.int p2), .val (.int p3), .val (.int (0 : Int32)), .val (.int v4_2), .val (.int v5_3), .val (.ref bo4), .val (.int v7_5), .val (.int v8_6), .val (.int v9_7), .unset, .unset, .unset, .unset, .unset] [(.ref b9)]))
      refine own_by (fun _ k => XS.astore X30.here hx rfl (hb hby at_85) rfl rfl (l' := #[.val (.int p1), .val (.int p2), .val (.int p3), .val (.int (0 : Int32)), .val (.int v4_2), .val (.int v5_3), .val (.ref bo4), .val (.int v7_5), .val (.int v8_6), .val (.int v9_7), .val (.ref b9), .unset, .unset, .unset, .unset]) rfl k) ?_
      show own_Go _ _ _ _ (T30.setTop (mkF m 87 #[.val (.int p1), .val (.int p2), .val (.int p3), .val (.int (0 : Int32)), .val (.int v4_2), .val (.int v5_3), .val (.ref bo4), .val (.int v7_5), .val (.int v8_6), .val (.int v9_7), .val (.ref b9), .unset, .unset, .unset, .unset] []))
      refine own_by (fun _ k => XS.goto X30.here hx rfl (pc0 := 87) (pc' := 164) rfl (hb hby at_87) (by decide) (by decide) k) ?_
      refine own_by (fun _ k => XS.iloadN X30.here hx rfl (hb hby at_164) rfl k) ?_
      refine own_by (fun _ k => XS.bipush X30.here hx rfl (hb hby at_165) k) ?_
      show own_Go _ _ _ _ (T30.setTop (mkF m 167 #[.val (.int p1), .val (.int p2), .val (.int p3), .val (.int (0 : Int32)), .val (.int v4_2), .val (.int v5_3), .val (.ref bo4), .val (.int v7_5), .val (.int v8_6), .val (.int v9_7), .val (.ref b9), .unset, .unset, .unset, .unset] [(.int (8 : Int32)), (.int p3)]))
      refine own_by (fun _ k => XS.iushr X30.here hx rfl (hb hby at_167) rfl k) ?_
      refine own_by (fun _ k => XS.sipush X30.here hx rfl (hb hby at_168) k) ?_
      show own_Go _ _ _ _ (T30.setTop (mkF m 171 #[.val (.int p1), .val (.int p2), .val (.int p3), .val (.int (0 : Int32)), .val (.int v4_2), .val (.int v5_3), .val (.ref bo4), .val (.int v7_5), .val (.int v8_6), .val (.int v9_7), .val (.ref b9), .unset, .unset, .unset, .unset] [(.int (255 : Int32)), (.int ((p3.toUInt32 >>> ((8 : Int32) &&& 31).toUInt32).toInt32))]))
      refine own_by (fun _ k => XS.iand X30.here hx rfl (hb hby at_171) rfl k) ?_
      show own_Go _ _ _ _ (T30.setTop (mkF m 172 #[.val (.int p1), .val (.int p2), .val (.int p3), .val (.int (0 : Int32)), .val (.int v4_2), .val (.int v5_3), .val (.ref bo4), .val (.int v7_5), .val (.int v8_6), .val (.int v9_7), .val (.ref b9), .unset, .unset, .unset, .unset] [(.int (((p3.toUInt32 >>> ((8 : Int32) &&& 31).toUInt32).toInt32) &&& (255 : Int32)))]))
      refine own_by (fun _ k => XS.i2c X30.here hx rfl (hb hby at_172) rfl k) ?_
      show own_Go _ _ _ _ (T30.setTop (mkF m 173 #[.val (.int p1), .val (.int p2), .val (.int p3), .val (.int (0 : Int32)), .val (.int v4_2), .val (.int v5_3), .val (.ref bo4), .val (.int v7_5), .val (.int v8_6), .val (.int v9_7), .val (.ref b9), .unset, .unset, .unset, .unset] [(.int ((((p3.toUInt32 >>> ((8 : Int32) &&& 31).toUInt32).toInt32) &&& (255 : Int32)).toUInt32.toUInt16.toUInt32.toInt32))]))
      obtain ⟨g41, hg41⟩ : ∃ z_ : Int32, ((((p3.toUInt32 >>> ((8 : Int32) &&& 31).toUInt32).toInt32) &&& (255 : Int32)).toUInt32.toUInt16.toUInt32.toInt32) = z_ := ⟨_, rfl⟩
      refine own_gen hg41 (fun z_ => T30.setTop (mkF m 173 #[.val (.int p1), .val (.int p2), .val (.int p3), .val (.int (0 : Int32)), .val (.int v4_2), .val (.int v5_3), .val (.ref bo4), .val (.int v7_5), .val (.int v8_6), .val (.int v9_7), .val (.ref b9), .unset, .unset, .unset, .unset] [(.int z_)])) ?_
      refine own_callS X30 hx hZ hown (hw _ (List.mem_of_getElem? (i := 29) rfl)) (hw _ (List.mem_of_getElem? (i := 30) rfl)) (hw _ (List.mem_of_getElem? (i := 9) rfl)) (hw _ (List.mem_of_getElem? (i := 31) rfl)) (by decide) (rm5 l Z a0 hw [] g41 cs h30 n0 Z30 f35 Pcs (own_ch _ _ hg41)) e30 (by rw [hml]; rfl) [(.int g41)] [] rfl (lenOf own_pd5 rfl) rfl 0 (Nat.le_of_eq rfl) (by decide) (by decide) (Nat.le_of_ble_eq_true rfl) (Nat.le_of_ble_eq_true rfl) (hb hby at_173) ?_
      intro T42 Lc42 v42 X42 hQ42
      obtain ⟨h42, e42⟩ : ∃ h, T42.heap = h := ⟨_, rfl⟩
      rw [e42] at hQ42
      obtain ⟨bs42, rfl, N42q, K42⟩ := hQ42
      have N42 := Fr.app N30 N42q
      have f43 := own_sta_keep f31 K42 ns0
      have f44 := own_sta_keep f32 K42 ns0
      have f45 := own_sta_keep f33 K42 ns0
      have f46 := own_sta_keep f34 K42 ns0
      have f47 := own_sta_keep f35 K42 ns0
      have f48 := f36.trans K42 all0
      have f49 := f37.keep K42
      have f50 := f40.keep K42 nin0
      have Z42 := Nat.le_trans Z30 K42.1
      have ks42 := Nat.le_trans ks30 K42.1
      show own_Go _ _ _ _ (T42.setTop (mkF m 176 #[.val (.int p1), .val (.int p2), .val (.int p3), .val (.int (0 : Int32)), .val (.int v4_2), .val (.int v5_3), .val (.ref bo4), .val (.int v7_5), .val (.int v8_6), .val (.int v9_7), .val (.ref b9), .unset, .unset, .unset, .unset] [(.ref bs42)]))
      refine own_by (fun _ k => XS.astore X42.here hx rfl (hb hby at_176) rfl rfl (l' := #[.val (.int p1), .val (.int p2), .val (.int p3), .val (.int (0 : Int32)), .val (.int v4_2), .val (.int v5_3), .val (.ref bo4), .val (.int v7_5), .val (.int v8_6), .val (.int v9_7), .val (.ref b9), .val (.ref bs42), .unset, .unset, .unset]) rfl k) ?_
      show own_Go _ _ _ _ (T42.setTop (mkF m 178 #[.val (.int p1), .val (.int p2), .val (.int p3), .val (.int (0 : Int32)), .val (.int v4_2), .val (.int v5_3), .val (.ref bo4), .val (.int v7_5), .val (.int v8_6), .val (.int v9_7), .val (.ref b9), .val (.ref bs42), .unset, .unset, .unset] []))
      obtain ⟨T51, h51, X51, e51, E51, A51, D51, -, st51⟩ := newO X42 hx hZ hown (hw _ (List.mem_of_getElem? (i := 44) rfl)) (hw _ (List.mem_of_getElem? (i := 45) rfl)) (hw _ (List.mem_of_getElem? (i := 46) rfl)) e42 (g := (mkF m 178 #[.val (.int p1), .val (.int p2), .val (.int p3), .val (.int (0 : Int32)), .val (.int v4_2), .val (.int v5_3), .val (.ref bo4), .val (.int v7_5), .val (.int v8_6), .val (.int v9_7), .val (.ref b9), .val (.ref bs42), .unset, .unset, .unset] [])) rfl (hb hby at_178) (by decide) (by decide)
      refine own_by st51 ?_
      show own_Go _ _ _ _ (T51.setTop (mkF m 181 #[.val (.int p1), .val (.int p2), .val (.int p3), .val (.int (0 : Int32)), .val (.int v4_2), .val (.int v5_3), .val (.ref bo4), .val (.int v7_5), .val (.int v8_6), .val (.int v9_7), .val (.ref b9), .val (.ref bs42), .unset, .unset, .unset] [.ref h42.size]))
      obtain ⟨b51, g51⟩ : ∃ z, z = h42.size := ⟨_, rfl⟩
      rw [← g51] at A51 D51
      refine own_gen g51.symm (fun z_ => T51.setTop (mkF m 181 #[.val (.int p1), .val (.int p2), .val (.int p3), .val (.int (0 : Int32)), .val (.int v4_2), .val (.int v5_3), .val (.ref bo4), .val (.int v7_5), .val (.int v8_6), .val (.int v9_7), .val (.ref b9), .val (.ref bs42), .unset, .unset, .unset] [.ref z_])) ?_
      have ne52 : b9 ≠ b51 := Nat.ne_of_lt (Nat.lt_of_lt_of_le f49.lt (Nat.le_of_eq g51.symm))
      have ne53 : b18 ≠ b51 := Nat.ne_of_lt (Nat.lt_of_lt_of_le f50.lt (Nat.le_of_eq g51.symm))
      have ge51 : n0 ≤ b51 := Nat.le_trans Z42 (Nat.le_of_eq g51.symm)
      have nw51 : h0.size ≤ b51 := Nat.le_trans f48.1 (Nat.le_of_eq g51.symm)
      have f54 := f43.ext E51
      have f55 := f44.ext E51
      have f56 := f45.ext E51
      have f57 := f46.ext E51
      have f58 := f47.ext E51
      have f59 := f48.ext E51
      have f60 := f49.ext E51
      have f61 := f50.ext E51
      have Z51 := Nat.le_trans Z42 E51.1
      have ks51 := Nat.le_trans ks42 E51.1
      have f62 : Fld Z h51 b51 "com/example/time_for_trials/timefortrials/cli/Usage$Option" "name" "Ljava/lang/String;" .null := D51 (Or.inr (hw _ (List.mem_of_getElem? (i := 58) rfl))) (ty := (.object "java/lang/String")) (by decide)
      have f63 : Fld Z h51 b51 "com/example/time_for_trials/timefortrials/cli/Usage$Option" "value" "Ljava/lang/String;" .null := D51 (Or.inr (hw _ (List.mem_of_getElem? (i := 60) rfl))) (ty := (.object "java/lang/String")) (by decide)
      have f64 : Fld Z h51 b51 "com/example/time_for_trials/timefortrials/cli/Usage$Option" "occurs" "Lcom/example/time_for_trials/timefortrials/cli/Usage$Occurs;" .null := D51 (Or.inr (hw _ (List.mem_of_getElem? (i := 62) rfl))) (ty := (.object "com/example/time_for_trials/timefortrials/cli/Usage$Occurs")) (by decide)
      have f65 : Fld Z h51 b51 "com/example/time_for_trials/timefortrials/cli/Usage$Option" "description" "Ljava/lang/String;" .null := D51 (Or.inr (hw _ (List.mem_of_getElem? (i := 64) rfl))) (ty := (.object "java/lang/String")) (by decide)
      show own_Go _ _ _ _ (T51.setTop (mkF m 181 #[.val (.int p1), .val (.int p2), .val (.int p3), .val (.int (0 : Int32)), .val (.int v4_2), .val (.int v5_3), .val (.ref bo4), .val (.int v7_5), .val (.int v8_6), .val (.int v9_7), .val (.ref b9), .val (.ref bs42), .unset, .unset, .unset] [(.ref b51)]))
      refine own_by (fun _ k => XS.dup X51.here hx rfl (hb hby at_181) rfl rfl k) ?_
      refine own_by (fun _ k => XS.aload X51.here hx rfl (hb hby at_182) rfl rfl k) ?_
      refine own_by (fun _ k => XS.aload X51.here hx rfl (hb hby at_184) rfl rfl k) ?_
      show own_Go _ _ _ _ (T51.setTop (mkF m 186 #[.val (.int p1), .val (.int p2), .val (.int p3), .val (.int (0 : Int32)), .val (.int v4_2), .val (.int v5_3), .val (.ref bo4), .val (.int v7_5), .val (.int v8_6), .val (.int v9_7), .val (.ref b9), .val (.ref bs42), .unset, .unset, .unset] [(.ref b9), (.ref bs42), (.ref b51), (.ref b51)]))
      refine own_by (fun _ k => XS.aload X51.here hx rfl (hb hby at_186) rfl rfl k) ?_
      show own_Go _ _ _ _ (T51.setTop (mkF m 188 #[.val (.int p1), .val (.int p2), .val (.int p3), .val (.int (0 : Int32)), .val (.int v4_2), .val (.int v5_3), .val (.ref bo4), .val (.int v7_5), .val (.int v8_6), .val (.int v9_7), .val (.ref b9), .val (.ref bs42), .unset, .unset, .unset] [(.ref bo4), (.ref b9), (.ref bs42), (.ref b51), (.ref b51)]))
      refine own_ldcS X51 hx hZ hown (hw _ (List.mem_of_getElem? (i := 47) rfl)) (own_wS hw) e51 hS30 ks51 (hb hby at_188) 4 (by decide) (by decide) (by decide) (by decide) ?_
      intro b66 T66 h66 kk66 X66 e66 E66 hS66 ks66 hZ hown
      have f67 := f54.ext E66
      have f68 := f55.ext E66
      have f69 := f56.ext E66
      have f70 := f57.ext E66
      have f71 := f58.ext E66
      have f72 := f59.ext E66
      have f73 := f60.ext E66
      have f74 := f61.ext E66
      have f75 := A51.ext E66
      have f76 := f62.ext E66
      have f77 := f63.ext E66
      have f78 := f64.ext E66
      have f79 := f65.ext E66
      have Z66 := Nat.le_trans Z51 E66.1
      show own_Go _ _ _ _ (T66.setTop (mkF m 190 #[.val (.int p1), .val (.int p2), .val (.int p3), .val (.int (0 : Int32)), .val (.int v4_2), .val (.int v5_3), .val (.ref bo4), .val (.int v7_5), .val (.int v8_6), .val (.int v9_7), .val (.ref b9), .val (.ref bs42), .unset, .unset, .unset] [(.ref b66), (.ref bo4), (.ref b9), (.ref bs42), (.ref b51), (.ref b51)]))
      refine own_callI X66 hx hZ hown rfl (hw _ (List.mem_of_getElem? (i := 48) rfl)) (hw _ (List.mem_of_getElem? (i := 49) rfl)) (hw _ (List.mem_of_getElem? (i := 46) rfl)) (hw _ (List.mem_of_getElem? (i := 50) rfl)) (by decide) (rm9_v l Z a0 hw [] b51 bs42 b9 bo4 b66 h66 n0 Z66 f75 f76 f77 f78 f79 ge51) e66 (by rw [hml]; rfl) b51 [(.ref bs42), (.ref b9), (.ref bo4), (.ref b66)] [(.ref b51)] rfl (lenOf own_pd9 rfl) rfl 1 (Nat.le_of_eq rfl) (by decide) (by decide) (Nat.le_of_ble_eq_true rfl) (Nat.le_of_ble_eq_true rfl) (hb hby at_190) ?_
      intro T80 Lc80 v80 X80 hQ80
      obtain ⟨h80, e80⟩ : ∃ h, T80.heap = h := ⟨_, rfl⟩
      rw [e80] at hQ80
      obtain ⟨rfl, N80q, K80, FO80⟩ := hQ80
      have N80 := Fr.app N42 N80q
      have f81 := own_sta_keep f67 K80 (nsS f75.nostat ns0)
      have f82 := own_sta_keep f68 K80 (nsS f75.nostat ns0)
      have f83 := own_sta_keep f69 K80 (nsS f75.nostat ns0)
      have f84 := own_sta_keep f70 K80 (nsS f75.nostat ns0)
      have f85 := own_sta_keep f71 K80 (nsS f75.nostat ns0)
      have f86 := f72.trans K80 (allS (P := fun x => x ∈ [] ∨ h0.size ≤ x) (Or.inr nw51) all0)
      have f87 := f73.keep K80
      have f88 := f74.keep K80 (ninS ne53 nin0)
      have f89 := f75.keep K80
      have Z80 := Nat.le_trans Z66 K80.1
      have ks80 := Nat.le_trans ks66 K80.1
      show own_Go _ _ _ _ (T80.setTop (mkF m 193 #[.val (.int p1), .val (.int p2), .val (.int p3), .val (.int (0 : Int32)), .val (.int v4_2), .val (.int v5_3), .val (.ref bo4), .val (.int v7_5), .val (.int v8_6), .val (.int v9_7), .val (.ref b9), .val (.ref bs42), .unset, .unset, .unset] [(.ref b51)]))
      refine own_by (fun _ k => XS.astore X80.here hx rfl (hb hby at_193) rfl rfl (l' := #[.val (.int p1), .val (.int p2), .val (.int p3), .val (.int (0 : Int32)), .val (.int v4_2), .val (.int v5_3), .val (.ref bo4), .val (.int v7_5), .val (.int v8_6), .val (.int v9_7), .val (.ref b9), .val (.ref bs42), .val (.ref b51), .unset, .unset]) rfl k) ?_
      refine own_by (fun _ k => XS.aload X80.here hx rfl (hb hby at_195) rfl rfl k) ?_
      show own_Go _ _ _ _ (T80.setTop (mkF m 197 #[.val (.int p1), .val (.int p2), .val (.int p3), .val (.int (0 : Int32)), .val (.int v4_2), .val (.int v5_3), .val (.ref bo4), .val (.int v7_5), .val (.int v8_6), .val (.int v9_7), .val (.ref b9), .val (.ref bs42), .val (.ref b51), .unset, .unset] [(.ref b51)]))
      refine own_callV X80 hx hZ hown (hw _ (List.mem_of_getElem? (i := 65) rfl)) (hw _ (List.mem_of_getElem? (i := 66) rfl)) (notFace_of_selects (args := #[]) (mvT hZ (hw _ (List.mem_of_getElem? (i := 68) rfl)))) (hw _ (List.mem_of_getElem? (i := 68) rfl)) (hw _ (List.mem_of_getElem? (i := 67) rfl)) (hw _ (List.mem_of_getElem? (i := 46) rfl)) (hw _ (List.mem_of_getElem? (i := 69) rfl)) (by decide) (rm11_v l Z a0 hw [] b51 b9 h80 n0 Z80 FO80) e80 b51 f89 (by rw [hml]; rfl) [] [] rfl (lenOf own_pd10 rfl) rfl 0 (Nat.le_of_eq rfl) (by decide) (by decide) (Nat.le_of_ble_eq_true rfl) (Nat.le_of_ble_eq_true rfl) (hb hby at_197) ?_
      intro T94 Lc94 v94 X94 hQ94
      obtain ⟨rfl, N94q, e94⟩ := hQ94
      have N94 := Fr.app N80 N94q
      show own_Go _ _ _ _ (T94.setTop (mkF m 200 #[.val (.int p1), .val (.int p2), .val (.int p3), .val (.int (0 : Int32)), .val (.int v4_2), .val (.int v5_3), .val (.ref bo4), .val (.int v7_5), .val (.int v8_6), .val (.int v9_7), .val (.ref b9), .val (.ref bs42), .val (.ref b51), .unset, .unset] [(.int (1 : Int32))]))
      refine own_by (fun _ k => XS.iloadN X94.here hx rfl (hb hby at_200) rfl k) ?_
      show own_Go _ _ _ _ (T94.setTop (mkF m 201 #[.val (.int p1), .val (.int p2), .val (.int p3), .val (.int (0 : Int32)), .val (.int v4_2), .val (.int v5_3), .val (.ref bo4), .val (.int v7_5), .val (.int v8_6), .val (.int v9_7), .val (.ref b9), .val (.ref bs42), .val (.ref b51), .unset, .unset] [(.int (0 : Int32)), (.int (1 : Int32))]))
      refine own_by (fun _ k => XS.ifNo X94.here hx rfl (hb hby at_201) rfl ((if0 _ _).trans (teq (by decide)).2) k) ?_
      refine own_by (fun _ k => XS.iconst X94.here hx rfl (hb hby at_204) k) ?_
      show own_Go _ _ _ _ (T94.setTop (mkF m 205 #[.val (.int p1), .val (.int p2), .val (.int p3), .val (.int (0 : Int32)), .val (.int v4_2), .val (.int v5_3), .val (.ref bo4), .val (.int v7_5), .val (.int v8_6), .val (.int v9_7), .val (.ref b9), .val (.ref bs42), .val (.ref b51), .unset, .unset] [(.int (1 : Int32)), (.int (1 : Int32))]))
      refine own_by (fun _ k => XS.goto X94.here hx rfl (pc0 := 205) (pc' := 209) rfl (hb hby at_205) (by decide) (by decide) k) ?_
      show own_Go _ _ _ _ (T94.setTop (mkF m 209 #[.val (.int p1), .val (.int p2), .val (.int p3), .val (.int (0 : Int32)), .val (.int v4_2), .val (.int v5_3), .val (.ref bo4), .val (.int v7_5), .val (.int v8_6), .val (.int v9_7), .val (.ref b9), .val (.ref bs42), .val (.ref b51), .unset, .unset] [(.int (1 : Int32)), (.int (1 : Int32))]))
      refine own_by (fun _ k => XS.icmpNo X94.here hx rfl (hb hby at_209) rfl (teq (by decide)).2 k) ?_
      refine own_by (fun _ k => XS.iconst X94.here hx rfl (hb hby at_212) k) ?_
      show own_Go _ _ _ _ (T94.setTop (mkF m 213 #[.val (.int p1), .val (.int p2), .val (.int p3), .val (.int (0 : Int32)), .val (.int v4_2), .val (.int v5_3), .val (.ref bo4), .val (.int v7_5), .val (.int v8_6), .val (.int v9_7), .val (.ref b9), .val (.ref bs42), .val (.ref b51), .unset, .unset] [(.int (1 : Int32))]))
      refine own_by (fun _ k => XS.goto X94.here hx rfl (pc0 := 213) (pc' := 217) rfl (hb hby at_213) (by decide) (by decide) k) ?_
      show own_Go _ _ _ _ (T94.setTop (mkF m 217 #[.val (.int p1), .val (.int p2), .val (.int p3), .val (.int (0 : Int32)), .val (.int v4_2), .val (.int v5_3), .val (.ref bo4), .val (.int v7_5), .val (.int v8_6), .val (.int v9_7), .val (.ref b9), .val (.ref bs42), .val (.ref b51), .unset, .unset] [(.int (1 : Int32))]))
      refine own_by (fun _ k => XS.istore X94.here hx rfl (hb hby at_217) rfl (l' := #[.val (.int p1), .val (.int p2), .val (.int p3), .val (.int (0 : Int32)), .val (.int v4_2), .val (.int v5_3), .val (.ref bo4), .val (.int v7_5), .val (.int v8_6), .val (.int v9_7), .val (.ref b9), .val (.ref bs42), .val (.ref b51), .val (.int (1 : Int32)), .unset]) rfl k) ?_
      refine own_by (fun _ k => XS.aload X94.here hx rfl (hb hby at_219) rfl rfl k) ?_
      show own_Go _ _ _ _ (T94.setTop (mkF m 221 #[.val (.int p1), .val (.int p2), .val (.int p3), .val (.int (0 : Int32)), .val (.int v4_2), .val (.int v5_3), .val (.ref bo4), .val (.int v7_5), .val (.int v8_6), .val (.int v9_7), .val (.ref b9), .val (.ref bs42), .val (.ref b51), .val (.int (1 : Int32)), .unset] [(.ref bs42)]))
      refine own_ldcS X94 hx hZ hown (hw _ (List.mem_of_getElem? (i := 47) rfl)) (own_wS hw) e94 hS66 ks80 (hb hby at_221) 4 (by decide) (by decide) (by decide) (by decide) ?_
      intro b95 T95 h95 kk95 X95 e95 E95 hS95 ks95 hZ hown
      have f96 := f81.ext E95
      have f97 := f82.ext E95
      have f98 := f83.ext E95
      have f99 := f84.ext E95
      have f100 := f85.ext E95
      have f101 := f86.ext E95
      have f102 := f87.ext E95
      have f103 := f88.ext E95
      have f104 := f89.ext E95
      have f105 := FO80.ext E95
      have Z95 := Nat.le_trans Z80 E95.1
      show own_Go _ _ _ _ (T95.setTop (mkF m 223 #[.val (.int p1), .val (.int p2), .val (.int p3), .val (.int (0 : Int32)), .val (.int v4_2), .val (.int v5_3), .val (.ref bo4), .val (.int v7_5), .val (.int v8_6), .val (.int v9_7), .val (.ref b9), .val (.ref bs42), .val (.ref b51), .val (.int (1 : Int32)), .unset] [(.ref b95), (.ref bs42)]))
      refine own_callS X95 hx hZ hown (hw _ (List.mem_of_getElem? (i := 70) rfl)) (hw _ (List.mem_of_getElem? (i := 71) rfl)) (hw _ (List.mem_of_getElem? (i := 72) rfl)) (hw _ (List.mem_of_getElem? (i := 73) rfl)) (by decide) (rm12 l Z a0 hw [] bs42 b95 b_AT_MOST_ONCE h95 n0 Z95 f97) e95 (by rw [hml]; rfl) [(.ref bs42), (.ref b95)] [] rfl (lenOf own_pd11 rfl) rfl 0 (Nat.le_of_eq rfl) (by decide) (by decide) (Nat.le_of_ble_eq_true rfl) (Nat.le_of_ble_eq_true rfl) (hb hby at_223) ?_
      intro T106 Lc106 v106 X106 hQ106
      obtain ⟨h106, e106⟩ : ∃ h, T106.heap = h := ⟨_, rfl⟩
      rw [e106] at hQ106
      obtain ⟨bf106, rfl, N106q, K106, EO106, FO106⟩ := hQ106
      have N106 := Fr.app N94 N106q
      have f107 := own_sta_keep f96 K106 ns0
      have f108 := own_sta_keep f97 K106 ns0
      have f109 := own_sta_keep f98 K106 ns0
      have f110 := own_sta_keep f99 K106 ns0
      have f111 := own_sta_keep f100 K106 ns0
      have f112 := f101.trans K106 all0
      have f113 := f102.keep K106
      have f114 := f103.keep K106 nin0
      have f115 := f104.keep K106
      have f116 := f105.keep K106 nin0
      have Z106 := Nat.le_trans Z95 K106.1
      have ks106 := Nat.le_trans ks95 K106.1
      show own_Go _ _ _ _ (T106.setTop (mkF m 226 #[.val (.int p1), .val (.int p2), .val (.int p3), .val (.int (0 : Int32)), .val (.int v4_2), .val (.int v5_3), .val (.ref bo4), .val (.int v7_5), .val (.int v8_6), .val (.int v9_7), .val (.ref b9), .val (.ref bs42), .val (.ref b51), .val (.int (1 : Int32)), .unset] [(.ref bf106)]))
      refine own_callV X106 hx hZ hown (hw _ (List.mem_of_getElem? (i := 65) rfl)) (hw _ (List.mem_of_getElem? (i := 66) rfl)) (notFace_of_selects (args := #[]) (mvT hZ (hw _ (List.mem_of_getElem? (i := 68) rfl)))) (hw _ (List.mem_of_getElem? (i := 68) rfl)) (hw _ (List.mem_of_getElem? (i := 67) rfl)) (hw _ (List.mem_of_getElem? (i := 46) rfl)) (hw _ (List.mem_of_getElem? (i := 69) rfl)) (by decide) (rm11_n l Z a0 hw [] bf106 0 h106 n0 Z106 FO106) e106 bf106 EO106 (by rw [hml]; rfl) [] [] rfl (lenOf own_pd10 rfl) rfl 0 (Nat.le_of_eq rfl) (by decide) (by decide) (Nat.le_of_ble_eq_true rfl) (Nat.le_of_ble_eq_true rfl) (hb hby at_226) ?_
      intro T117 Lc117 v117 X117 hQ117
      obtain ⟨rfl, N117q, e117⟩ := hQ117
      have N117 := Fr.app N106 N117q
      show own_Go _ _ _ _ (T117.setTop (mkF m 229 #[.val (.int p1), .val (.int p2), .val (.int p3), .val (.int (0 : Int32)), .val (.int v4_2), .val (.int v5_3), .val (.ref bo4), .val (.int v7_5), .val (.int v8_6), .val (.int v9_7), .val (.ref b9), .val (.ref bs42), .val (.ref b51), .val (.int (1 : Int32)), .unset] [(.int (0 : Int32))]))
      refine own_by (fun _ k => XS.ifNo X117.here hx rfl (hb hby at_229) rfl ((if0 _ _).trans (teq (by decide)).2) k) ?_
      refine own_by (fun _ k => XS.iconst X117.here hx rfl (hb hby at_232) k) ?_
      show own_Go _ _ _ _ (T117.setTop (mkF m 233 #[.val (.int p1), .val (.int p2), .val (.int p3), .val (.int (0 : Int32)), .val (.int v4_2), .val (.int v5_3), .val (.ref bo4), .val (.int v7_5), .val (.int v8_6), .val (.int v9_7), .val (.ref b9), .val (.ref bs42), .val (.ref b51), .val (.int (1 : Int32)), .unset] [(.int (1 : Int32))]))
      refine own_by (fun _ k => XS.goto X117.here hx rfl (pc0 := 233) (pc' := 237) rfl (hb hby at_233) (by decide) (by decide) k) ?_
      show own_Go _ _ _ _ (T117.setTop (mkF m 237 #[.val (.int p1), .val (.int p2), .val (.int p3), .val (.int (0 : Int32)), .val (.int v4_2), .val (.int v5_3), .val (.ref bo4), .val (.int v7_5), .val (.int v8_6), .val (.int v9_7), .val (.ref b9), .val (.ref bs42), .val (.ref b51), .val (.int (1 : Int32)), .unset] [(.int (1 : Int32))]))
      refine own_by (fun _ k => XS.istore X117.here hx rfl (hb hby at_237) rfl (l' := #[.val (.int p1), .val (.int p2), .val (.int p3), .val (.int (0 : Int32)), .val (.int v4_2), .val (.int v5_3), .val (.ref bo4), .val (.int v7_5), .val (.int v8_6), .val (.int v9_7), .val (.ref b9), .val (.ref bs42), .val (.ref b51), .val (.int (1 : Int32)), .val (.int (1 : Int32))]) rfl k) ?_
      refine own_by (fun _ k => XS.iload X117.here hx rfl (hb hby at_239) rfl k) ?_
      show own_Go _ _ _ _ (T117.setTop (mkF m 241 #[.val (.int p1), .val (.int p2), .val (.int p3), .val (.int (0 : Int32)), .val (.int v4_2), .val (.int v5_3), .val (.ref bo4), .val (.int v7_5), .val (.int v8_6), .val (.int v9_7), .val (.ref b9), .val (.ref bs42), .val (.ref b51), .val (.int (1 : Int32)), .val (.int (1 : Int32))] [(.int (1 : Int32))]))
      refine own_by (fun _ k => XS.ifNo X117.here hx rfl (hb hby at_241) rfl ((if0 _ _).trans (feq (by decide)).1) k) ?_
      refine own_by (fun _ k => XS.iload X117.here hx rfl (hb hby at_244) rfl k) ?_
      show own_Go _ _ _ _ (T117.setTop (mkF m 246 #[.val (.int p1), .val (.int p2), .val (.int p3), .val (.int (0 : Int32)), .val (.int v4_2), .val (.int v5_3), .val (.ref bo4), .val (.int v7_5), .val (.int v8_6), .val (.int v9_7), .val (.ref b9), .val (.ref bs42), .val (.ref b51), .val (.int (1 : Int32)), .val (.int (1 : Int32))] [(.int (1 : Int32))]))
      refine own_by (fun _ k => XS.ifNo X117.here hx rfl (hb hby at_246) rfl ((if0 _ _).trans (feq (by decide)).1) k) ?_
      refine own_by (fun _ k => XS.iconst X117.here hx rfl (hb hby at_249) k) ?_
      show own_Go _ _ _ _ (T117.setTop (mkF m 250 #[.val (.int p1), .val (.int p2), .val (.int p3), .val (.int (0 : Int32)), .val (.int v4_2), .val (.int v5_3), .val (.ref bo4), .val (.int v7_5), .val (.int v8_6), .val (.int v9_7), .val (.ref b9), .val (.ref bs42), .val (.ref b51), .val (.int (1 : Int32)), .val (.int (1 : Int32))] [(.int (1 : Int32))]))
      refine own_by (fun _ k => XS.goto X117.here hx rfl (pc0 := 250) (pc' := 254) rfl (hb hby at_250) (by decide) (by decide) k) ?_
      show own_Go _ _ _ _ (T117.setTop (mkF m 254 #[.val (.int p1), .val (.int p2), .val (.int p3), .val (.int (0 : Int32)), .val (.int v4_2), .val (.int v5_3), .val (.ref bo4), .val (.int v7_5), .val (.int v8_6), .val (.int v9_7), .val (.ref b9), .val (.ref bs42), .val (.ref b51), .val (.int (1 : Int32)), .val (.int (1 : Int32))] [(.int (1 : Int32))]))
      exact own_retWN X117 hx Bd.notSynchronized e117 Bd.returns hS95 ks106 (by simp) (hb hby at_254) (⟨rfl, N117⟩) (by decide) (by decide)
    · --
      refine own_by (fun _ k => XS.ifYes X4.here hx rfl (pc0 := 72) (pc' := 90) rfl (hb hby at_72) rfl ((if0 _ _).trans (feq hc8).2) (by decide) (by decide) k) ?_
      refine own_by (fun _ k => XS.iload X4.here hx rfl (hb hby at_90) rfl k) ?_
      refine own_by (fun _ k => XS.iconst X4.here hx rfl (hb hby at_92) k) ?_
      show own_Go _ _ _ _ (T4.setTop (mkF m 93 #[.val (.int p1), .val (.int p2), .val (.int p3), .val (.int (0 : Int32)), .val (.int v4_2), .val (.int v5_3), .val (.ref bo4), .val (.int v7_5), .val (.int v8_6), .val (.int v9_7), .unset, .unset, .unset, .unset, .unset] [(.int (1 : Int32)), (.int v4_2)]))
      by_cases hc118 : v4_2 = (1 : Int32)
      · --
        refine own_by (fun _ k => XS.icmpNo X4.here hx rfl (hb hby at_93) rfl (teq hc118).2 k) ?_
        refine own_by (fun _ k => XS.iload X4.here hx rfl (hb hby at_96) rfl k) ?_
        show own_Go _ _ _ _ (T4.setTop (mkF m 98 #[.val (.int p1), .val (.int p2), .val (.int p3), .val (.int (0 : Int32)), .val (.int v4_2), .val (.int v5_3), .val (.ref bo4), .val (.int v7_5), .val (.int v8_6), .val (.int v9_7), .unset, .unset, .unset, .unset, .unset] [(.int v7_5)]))
        refine own_callS X4 hx hZ hown (hw _ (List.mem_of_getElem? (i := 29) rfl)) (hw _ (List.mem_of_getElem? (i := 30) rfl)) (hw _ (List.mem_of_getElem? (i := 9) rfl)) (hw _ (List.mem_of_getElem? (i := 31) rfl)) (by decide) (rm5 l Z a0 hw [] v7_5 cs h0 n0 Z0 PS Pcs (own_ch _ _ hv7_5)) e4 (by rw [hml]; rfl) [(.int v7_5)] [] rfl (lenOf own_pd5 rfl) rfl 0 (Nat.le_of_eq rfl) (by decide) (by decide) (Nat.le_of_ble_eq_true rfl) (Nat.le_of_ble_eq_true rfl) (hb hby at_98) ?_
        intro T119 Lc119 v119 X119 hQ119
        obtain ⟨h119, e119⟩ : ∃ h, T119.heap = h := ⟨_, rfl⟩
        rw [e119] at hQ119
        obtain ⟨bs119, rfl, N119q, K119⟩ := hQ119
        have N119 := Fr.app N4 N119q
        have f120 := own_sta_keep PS_ONCE K119 ns0
        have f121 := own_sta_keep PS_AT_MOST_ONCE K119 ns0
        have f122 := own_sta_keep PS_AT_LEAST_ONCE K119 ns0
        have f123 := own_sta_keep PS_ANY_NUMBER K119 ns0
        have f124 := own_sta_keep PS K119 ns0
        have f125 := (Keep.refl h0 []).trans K119 all0
        have Z119 := Nat.le_trans Z0 K119.1
        have ks119 := Nat.le_trans k0 K119.1
        show own_Go _ _ _ _ (T119.setTop (mkF m 101 #[.val (.int p1), .val (.int p2), .val (.int p3), .val (.int (0 : Int32)), .val (.int v4_2), .val (.int v5_3), .val (.ref bo4), .val (.int v7_5), .val (.int v8_6), .val (.int v9_7), .unset, .unset, .unset, .unset, .unset] [(.ref bs119)]))
        refine own_by (fun _ k => XS.astore X119.here hx rfl (hb hby at_101) rfl rfl (l' := #[.val (.int p1), .val (.int p2), .val (.int p3), .val (.int (0 : Int32)), .val (.int v4_2), .val (.int v5_3), .val (.ref bo4), .val (.int v7_5), .val (.int v8_6), .val (.int v9_7), .val (.ref bs119), .unset, .unset, .unset, .unset]) rfl k) ?_
        show own_Go _ _ _ _ (T119.setTop (mkF m 103 #[.val (.int p1), .val (.int p2), .val (.int p3), .val (.int (0 : Int32)), .val (.int v4_2), .val (.int v5_3), .val (.ref bo4), .val (.int v7_5), .val (.int v8_6), .val (.int v9_7), .val (.ref bs119), .unset, .unset, .unset, .unset] []))
        refine own_by (fun _ k => XS.goto X119.here hx rfl (pc0 := 103) (pc' := 164) rfl (hb hby at_103) (by decide) (by decide) k) ?_
        refine own_by (fun _ k => XS.iloadN X119.here hx rfl (hb hby at_164) rfl k) ?_
        refine own_by (fun _ k => XS.bipush X119.here hx rfl (hb hby at_165) k) ?_
        show own_Go _ _ _ _ (T119.setTop (mkF m 167 #[.val (.int p1), .val (.int p2), .val (.int p3), .val (.int (0 : Int32)), .val (.int v4_2), .val (.int v5_3), .val (.ref bo4), .val (.int v7_5), .val (.int v8_6), .val (.int v9_7), .val (.ref bs119), .unset, .unset, .unset, .unset] [(.int (8 : Int32)), (.int p3)]))
        refine own_by (fun _ k => XS.iushr X119.here hx rfl (hb hby at_167) rfl k) ?_
        refine own_by (fun _ k => XS.sipush X119.here hx rfl (hb hby at_168) k) ?_
        show own_Go _ _ _ _ (T119.setTop (mkF m 171 #[.val (.int p1), .val (.int p2), .val (.int p3), .val (.int (0 : Int32)), .val (.int v4_2), .val (.int v5_3), .val (.ref bo4), .val (.int v7_5), .val (.int v8_6), .val (.int v9_7), .val (.ref bs119), .unset, .unset, .unset, .unset] [(.int (255 : Int32)), (.int ((p3.toUInt32 >>> ((8 : Int32) &&& 31).toUInt32).toInt32))]))
        refine own_by (fun _ k => XS.iand X119.here hx rfl (hb hby at_171) rfl k) ?_
        show own_Go _ _ _ _ (T119.setTop (mkF m 172 #[.val (.int p1), .val (.int p2), .val (.int p3), .val (.int (0 : Int32)), .val (.int v4_2), .val (.int v5_3), .val (.ref bo4), .val (.int v7_5), .val (.int v8_6), .val (.int v9_7), .val (.ref bs119), .unset, .unset, .unset, .unset] [(.int (((p3.toUInt32 >>> ((8 : Int32) &&& 31).toUInt32).toInt32) &&& (255 : Int32)))]))
        refine own_by (fun _ k => XS.i2c X119.here hx rfl (hb hby at_172) rfl k) ?_
        show own_Go _ _ _ _ (T119.setTop (mkF m 173 #[.val (.int p1), .val (.int p2), .val (.int p3), .val (.int (0 : Int32)), .val (.int v4_2), .val (.int v5_3), .val (.ref bo4), .val (.int v7_5), .val (.int v8_6), .val (.int v9_7), .val (.ref bs119), .unset, .unset, .unset, .unset] [(.int ((((p3.toUInt32 >>> ((8 : Int32) &&& 31).toUInt32).toInt32) &&& (255 : Int32)).toUInt32.toUInt16.toUInt32.toInt32))]))
        obtain ⟨g126, hg126⟩ : ∃ z_ : Int32, ((((p3.toUInt32 >>> ((8 : Int32) &&& 31).toUInt32).toInt32) &&& (255 : Int32)).toUInt32.toUInt16.toUInt32.toInt32) = z_ := ⟨_, rfl⟩
        refine own_gen hg126 (fun z_ => T119.setTop (mkF m 173 #[.val (.int p1), .val (.int p2), .val (.int p3), .val (.int (0 : Int32)), .val (.int v4_2), .val (.int v5_3), .val (.ref bo4), .val (.int v7_5), .val (.int v8_6), .val (.int v9_7), .val (.ref bs119), .unset, .unset, .unset, .unset] [(.int z_)])) ?_
        refine own_callS X119 hx hZ hown (hw _ (List.mem_of_getElem? (i := 29) rfl)) (hw _ (List.mem_of_getElem? (i := 30) rfl)) (hw _ (List.mem_of_getElem? (i := 9) rfl)) (hw _ (List.mem_of_getElem? (i := 31) rfl)) (by decide) (rm5 l Z a0 hw [] g126 cs h119 n0 Z119 f124 Pcs (own_ch _ _ hg126)) e119 (by rw [hml]; rfl) [(.int g126)] [] rfl (lenOf own_pd5 rfl) rfl 0 (Nat.le_of_eq rfl) (by decide) (by decide) (Nat.le_of_ble_eq_true rfl) (Nat.le_of_ble_eq_true rfl) (hb hby at_173) ?_
        intro T127 Lc127 v127 X127 hQ127
        obtain ⟨h127, e127⟩ : ∃ h, T127.heap = h := ⟨_, rfl⟩
        rw [e127] at hQ127
        obtain ⟨bs127, rfl, N127q, K127⟩ := hQ127
        have N127 := Fr.app N119 N127q
        have f128 := own_sta_keep f120 K127 ns0
        have f129 := own_sta_keep f121 K127 ns0
        have f130 := own_sta_keep f122 K127 ns0
        have f131 := own_sta_keep f123 K127 ns0
        have f132 := own_sta_keep f124 K127 ns0
        have f133 := f125.trans K127 all0
        have Z127 := Nat.le_trans Z119 K127.1
        have ks127 := Nat.le_trans ks119 K127.1
        show own_Go _ _ _ _ (T127.setTop (mkF m 176 #[.val (.int p1), .val (.int p2), .val (.int p3), .val (.int (0 : Int32)), .val (.int v4_2), .val (.int v5_3), .val (.ref bo4), .val (.int v7_5), .val (.int v8_6), .val (.int v9_7), .val (.ref bs119), .unset, .unset, .unset, .unset] [(.ref bs127)]))
        refine own_by (fun _ k => XS.astore X127.here hx rfl (hb hby at_176) rfl rfl (l' := #[.val (.int p1), .val (.int p2), .val (.int p3), .val (.int (0 : Int32)), .val (.int v4_2), .val (.int v5_3), .val (.ref bo4), .val (.int v7_5), .val (.int v8_6), .val (.int v9_7), .val (.ref bs119), .val (.ref bs127), .unset, .unset, .unset]) rfl k) ?_
        show own_Go _ _ _ _ (T127.setTop (mkF m 178 #[.val (.int p1), .val (.int p2), .val (.int p3), .val (.int (0 : Int32)), .val (.int v4_2), .val (.int v5_3), .val (.ref bo4), .val (.int v7_5), .val (.int v8_6), .val (.int v9_7), .val (.ref bs119), .val (.ref bs127), .unset, .unset, .unset] []))
        obtain ⟨T134, h134, X134, e134, E134, A134, D134, -, st134⟩ := newO X127 hx hZ hown (hw _ (List.mem_of_getElem? (i := 44) rfl)) (hw _ (List.mem_of_getElem? (i := 45) rfl)) (hw _ (List.mem_of_getElem? (i := 46) rfl)) e127 (g := (mkF m 178 #[.val (.int p1), .val (.int p2), .val (.int p3), .val (.int (0 : Int32)), .val (.int v4_2), .val (.int v5_3), .val (.ref bo4), .val (.int v7_5), .val (.int v8_6), .val (.int v9_7), .val (.ref bs119), .val (.ref bs127), .unset, .unset, .unset] [])) rfl (hb hby at_178) (by decide) (by decide)
        refine own_by st134 ?_
        show own_Go _ _ _ _ (T134.setTop (mkF m 181 #[.val (.int p1), .val (.int p2), .val (.int p3), .val (.int (0 : Int32)), .val (.int v4_2), .val (.int v5_3), .val (.ref bo4), .val (.int v7_5), .val (.int v8_6), .val (.int v9_7), .val (.ref bs119), .val (.ref bs127), .unset, .unset, .unset] [.ref h127.size]))
        obtain ⟨b134, g134⟩ : ∃ z, z = h127.size := ⟨_, rfl⟩
        rw [← g134] at A134 D134
        refine own_gen g134.symm (fun z_ => T134.setTop (mkF m 181 #[.val (.int p1), .val (.int p2), .val (.int p3), .val (.int (0 : Int32)), .val (.int v4_2), .val (.int v5_3), .val (.ref bo4), .val (.int v7_5), .val (.int v8_6), .val (.int v9_7), .val (.ref bs119), .val (.ref bs127), .unset, .unset, .unset] [.ref z_])) ?_
        have ge134 : n0 ≤ b134 := Nat.le_trans Z127 (Nat.le_of_eq g134.symm)
        have nw134 : h0.size ≤ b134 := Nat.le_trans f133.1 (Nat.le_of_eq g134.symm)
        have f135 := f128.ext E134
        have f136 := f129.ext E134
        have f137 := f130.ext E134
        have f138 := f131.ext E134
        have f139 := f132.ext E134
        have f140 := f133.ext E134
        have Z134 := Nat.le_trans Z127 E134.1
        have ks134 := Nat.le_trans ks127 E134.1
        have f141 : Fld Z h134 b134 "com/example/time_for_trials/timefortrials/cli/Usage$Option" "name" "Ljava/lang/String;" .null := D134 (Or.inr (hw _ (List.mem_of_getElem? (i := 58) rfl))) (ty := (.object "java/lang/String")) (by decide)
        have f142 : Fld Z h134 b134 "com/example/time_for_trials/timefortrials/cli/Usage$Option" "value" "Ljava/lang/String;" .null := D134 (Or.inr (hw _ (List.mem_of_getElem? (i := 60) rfl))) (ty := (.object "java/lang/String")) (by decide)
        have f143 : Fld Z h134 b134 "com/example/time_for_trials/timefortrials/cli/Usage$Option" "occurs" "Lcom/example/time_for_trials/timefortrials/cli/Usage$Occurs;" .null := D134 (Or.inr (hw _ (List.mem_of_getElem? (i := 62) rfl))) (ty := (.object "com/example/time_for_trials/timefortrials/cli/Usage$Occurs")) (by decide)
        have f144 : Fld Z h134 b134 "com/example/time_for_trials/timefortrials/cli/Usage$Option" "description" "Ljava/lang/String;" .null := D134 (Or.inr (hw _ (List.mem_of_getElem? (i := 64) rfl))) (ty := (.object "java/lang/String")) (by decide)
        show own_Go _ _ _ _ (T134.setTop (mkF m 181 #[.val (.int p1), .val (.int p2), .val (.int p3), .val (.int (0 : Int32)), .val (.int v4_2), .val (.int v5_3), .val (.ref bo4), .val (.int v7_5), .val (.int v8_6), .val (.int v9_7), .val (.ref bs119), .val (.ref bs127), .unset, .unset, .unset] [(.ref b134)]))
        refine own_by (fun _ k => XS.dup X134.here hx rfl (hb hby at_181) rfl rfl k) ?_
        refine own_by (fun _ k => XS.aload X134.here hx rfl (hb hby at_182) rfl rfl k) ?_
        refine own_by (fun _ k => XS.aload X134.here hx rfl (hb hby at_184) rfl rfl k) ?_
        show own_Go _ _ _ _ (T134.setTop (mkF m 186 #[.val (.int p1), .val (.int p2), .val (.int p3), .val (.int (0 : Int32)), .val (.int v4_2), .val (.int v5_3), .val (.ref bo4), .val (.int v7_5), .val (.int v8_6), .val (.int v9_7), .val (.ref bs119), .val (.ref bs127), .unset, .unset, .unset] [(.ref bs119), (.ref bs127), (.ref b134), (.ref b134)]))
        refine own_by (fun _ k => XS.aload X134.here hx rfl (hb hby at_186) rfl rfl k) ?_
        show own_Go _ _ _ _ (T134.setTop (mkF m 188 #[.val (.int p1), .val (.int p2), .val (.int p3), .val (.int (0 : Int32)), .val (.int v4_2), .val (.int v5_3), .val (.ref bo4), .val (.int v7_5), .val (.int v8_6), .val (.int v9_7), .val (.ref bs119), .val (.ref bs127), .unset, .unset, .unset] [(.ref bo4), (.ref bs119), (.ref bs127), (.ref b134), (.ref b134)]))
        refine own_ldcS X134 hx hZ hown (hw _ (List.mem_of_getElem? (i := 47) rfl)) (own_wS hw) e134 hS0 ks134 (hb hby at_188) 4 (by decide) (by decide) (by decide) (by decide) ?_
        intro b145 T145 h145 kk145 X145 e145 E145 hS145 ks145 hZ hown
        have f146 := f135.ext E145
        have f147 := f136.ext E145
        have f148 := f137.ext E145
        have f149 := f138.ext E145
        have f150 := f139.ext E145
        have f151 := f140.ext E145
        have f152 := A134.ext E145
        have f153 := f141.ext E145
        have f154 := f142.ext E145
        have f155 := f143.ext E145
        have f156 := f144.ext E145
        have Z145 := Nat.le_trans Z134 E145.1
        show own_Go _ _ _ _ (T145.setTop (mkF m 190 #[.val (.int p1), .val (.int p2), .val (.int p3), .val (.int (0 : Int32)), .val (.int v4_2), .val (.int v5_3), .val (.ref bo4), .val (.int v7_5), .val (.int v8_6), .val (.int v9_7), .val (.ref bs119), .val (.ref bs127), .unset, .unset, .unset] [(.ref b145), (.ref bo4), (.ref bs119), (.ref bs127), (.ref b134), (.ref b134)]))
        refine own_callI X145 hx hZ hown rfl (hw _ (List.mem_of_getElem? (i := 48) rfl)) (hw _ (List.mem_of_getElem? (i := 49) rfl)) (hw _ (List.mem_of_getElem? (i := 46) rfl)) (hw _ (List.mem_of_getElem? (i := 50) rfl)) (by decide) (rm9_v l Z a0 hw [] b134 bs127 bs119 bo4 b145 h145 n0 Z145 f152 f153 f154 f155 f156 ge134) e145 (by rw [hml]; rfl) b134 [(.ref bs127), (.ref bs119), (.ref bo4), (.ref b145)] [(.ref b134)] rfl (lenOf own_pd9 rfl) rfl 1 (Nat.le_of_eq rfl) (by decide) (by decide) (Nat.le_of_ble_eq_true rfl) (Nat.le_of_ble_eq_true rfl) (hb hby at_190) ?_
        intro T157 Lc157 v157 X157 hQ157
        obtain ⟨h157, e157⟩ : ∃ h, T157.heap = h := ⟨_, rfl⟩
        rw [e157] at hQ157
        obtain ⟨rfl, N157q, K157, FO157⟩ := hQ157
        have N157 := Fr.app N127 N157q
        have f158 := own_sta_keep f146 K157 (nsS f152.nostat ns0)
        have f159 := own_sta_keep f147 K157 (nsS f152.nostat ns0)
        have f160 := own_sta_keep f148 K157 (nsS f152.nostat ns0)
        have f161 := own_sta_keep f149 K157 (nsS f152.nostat ns0)
        have f162 := own_sta_keep f150 K157 (nsS f152.nostat ns0)
        have f163 := f151.trans K157 (allS (P := fun x => x ∈ [] ∨ h0.size ≤ x) (Or.inr nw134) all0)
        have f164 := f152.keep K157
        have Z157 := Nat.le_trans Z145 K157.1
        have ks157 := Nat.le_trans ks145 K157.1
        show own_Go _ _ _ _ (T157.setTop (mkF m 193 #[.val (.int p1), .val (.int p2), .val (.int p3), .val (.int (0 : Int32)), .val (.int v4_2), .val (.int v5_3), .val (.ref bo4), .val (.int v7_5), .val (.int v8_6), .val (.int v9_7), .val (.ref bs119), .val (.ref bs127), .unset, .unset, .unset] [(.ref b134)]))
        refine own_by (fun _ k => XS.astore X157.here hx rfl (hb hby at_193) rfl rfl (l' := #[.val (.int p1), .val (.int p2), .val (.int p3), .val (.int (0 : Int32)), .val (.int v4_2), .val (.int v5_3), .val (.ref bo4), .val (.int v7_5), .val (.int v8_6), .val (.int v9_7), .val (.ref bs119), .val (.ref bs127), .val (.ref b134), .unset, .unset]) rfl k) ?_
        refine own_by (fun _ k => XS.aload X157.here hx rfl (hb hby at_195) rfl rfl k) ?_
        show own_Go _ _ _ _ (T157.setTop (mkF m 197 #[.val (.int p1), .val (.int p2), .val (.int p3), .val (.int (0 : Int32)), .val (.int v4_2), .val (.int v5_3), .val (.ref bo4), .val (.int v7_5), .val (.int v8_6), .val (.int v9_7), .val (.ref bs119), .val (.ref bs127), .val (.ref b134), .unset, .unset] [(.ref b134)]))
        refine own_callV X157 hx hZ hown (hw _ (List.mem_of_getElem? (i := 65) rfl)) (hw _ (List.mem_of_getElem? (i := 66) rfl)) (notFace_of_selects (args := #[]) (mvT hZ (hw _ (List.mem_of_getElem? (i := 68) rfl)))) (hw _ (List.mem_of_getElem? (i := 68) rfl)) (hw _ (List.mem_of_getElem? (i := 67) rfl)) (hw _ (List.mem_of_getElem? (i := 46) rfl)) (hw _ (List.mem_of_getElem? (i := 69) rfl)) (by decide) (rm11_v l Z a0 hw [] b134 bs119 h157 n0 Z157 FO157) e157 b134 f164 (by rw [hml]; rfl) [] [] rfl (lenOf own_pd10 rfl) rfl 0 (Nat.le_of_eq rfl) (by decide) (by decide) (Nat.le_of_ble_eq_true rfl) (Nat.le_of_ble_eq_true rfl) (hb hby at_197) ?_
        intro T169 Lc169 v169 X169 hQ169
        obtain ⟨rfl, N169q, e169⟩ := hQ169
        have N169 := Fr.app N157 N169q
        show own_Go _ _ _ _ (T169.setTop (mkF m 200 #[.val (.int p1), .val (.int p2), .val (.int p3), .val (.int (0 : Int32)), .val (.int v4_2), .val (.int v5_3), .val (.ref bo4), .val (.int v7_5), .val (.int v8_6), .val (.int v9_7), .val (.ref bs119), .val (.ref bs127), .val (.ref b134), .unset, .unset] [(.int (1 : Int32))]))
        refine own_by (fun _ k => XS.iloadN X169.here hx rfl (hb hby at_200) rfl k) ?_
        show own_Go _ _ _ _ (T169.setTop (mkF m 201 #[.val (.int p1), .val (.int p2), .val (.int p3), .val (.int (0 : Int32)), .val (.int v4_2), .val (.int v5_3), .val (.ref bo4), .val (.int v7_5), .val (.int v8_6), .val (.int v9_7), .val (.ref bs119), .val (.ref bs127), .val (.ref b134), .unset, .unset] [(.int (0 : Int32)), (.int (1 : Int32))]))
        refine own_by (fun _ k => XS.ifNo X169.here hx rfl (hb hby at_201) rfl ((if0 _ _).trans (teq (by decide)).2) k) ?_
        refine own_by (fun _ k => XS.iconst X169.here hx rfl (hb hby at_204) k) ?_
        show own_Go _ _ _ _ (T169.setTop (mkF m 205 #[.val (.int p1), .val (.int p2), .val (.int p3), .val (.int (0 : Int32)), .val (.int v4_2), .val (.int v5_3), .val (.ref bo4), .val (.int v7_5), .val (.int v8_6), .val (.int v9_7), .val (.ref bs119), .val (.ref bs127), .val (.ref b134), .unset, .unset] [(.int (1 : Int32)), (.int (1 : Int32))]))
        refine own_by (fun _ k => XS.goto X169.here hx rfl (pc0 := 205) (pc' := 209) rfl (hb hby at_205) (by decide) (by decide) k) ?_
        show own_Go _ _ _ _ (T169.setTop (mkF m 209 #[.val (.int p1), .val (.int p2), .val (.int p3), .val (.int (0 : Int32)), .val (.int v4_2), .val (.int v5_3), .val (.ref bo4), .val (.int v7_5), .val (.int v8_6), .val (.int v9_7), .val (.ref bs119), .val (.ref bs127), .val (.ref b134), .unset, .unset] [(.int (1 : Int32)), (.int (1 : Int32))]))
        refine own_by (fun _ k => XS.icmpNo X169.here hx rfl (hb hby at_209) rfl (teq (by decide)).2 k) ?_
        refine own_by (fun _ k => XS.iconst X169.here hx rfl (hb hby at_212) k) ?_
        show own_Go _ _ _ _ (T169.setTop (mkF m 213 #[.val (.int p1), .val (.int p2), .val (.int p3), .val (.int (0 : Int32)), .val (.int v4_2), .val (.int v5_3), .val (.ref bo4), .val (.int v7_5), .val (.int v8_6), .val (.int v9_7), .val (.ref bs119), .val (.ref bs127), .val (.ref b134), .unset, .unset] [(.int (1 : Int32))]))
        refine own_by (fun _ k => XS.goto X169.here hx rfl (pc0 := 213) (pc' := 217) rfl (hb hby at_213) (by decide) (by decide) k) ?_
        show own_Go _ _ _ _ (T169.setTop (mkF m 217 #[.val (.int p1), .val (.int p2), .val (.int p3), .val (.int (0 : Int32)), .val (.int v4_2), .val (.int v5_3), .val (.ref bo4), .val (.int v7_5), .val (.int v8_6), .val (.int v9_7), .val (.ref bs119), .val (.ref bs127), .val (.ref b134), .unset, .unset] [(.int (1 : Int32))]))
        refine own_by (fun _ k => XS.istore X169.here hx rfl (hb hby at_217) rfl (l' := #[.val (.int p1), .val (.int p2), .val (.int p3), .val (.int (0 : Int32)), .val (.int v4_2), .val (.int v5_3), .val (.ref bo4), .val (.int v7_5), .val (.int v8_6), .val (.int v9_7), .val (.ref bs119), .val (.ref bs127), .val (.ref b134), .val (.int (1 : Int32)), .unset]) rfl k) ?_
        refine own_by (fun _ k => XS.aload X169.here hx rfl (hb hby at_219) rfl rfl k) ?_
        show own_Go _ _ _ _ (T169.setTop (mkF m 221 #[.val (.int p1), .val (.int p2), .val (.int p3), .val (.int (0 : Int32)), .val (.int v4_2), .val (.int v5_3), .val (.ref bo4), .val (.int v7_5), .val (.int v8_6), .val (.int v9_7), .val (.ref bs119), .val (.ref bs127), .val (.ref b134), .val (.int (1 : Int32)), .unset] [(.ref bs127)]))
        refine own_ldcS X169 hx hZ hown (hw _ (List.mem_of_getElem? (i := 47) rfl)) (own_wS hw) e169 hS145 ks157 (hb hby at_221) 4 (by decide) (by decide) (by decide) (by decide) ?_
        intro b170 T170 h170 kk170 X170 e170 E170 hS170 ks170 hZ hown
        have f171 := f158.ext E170
        have f172 := f159.ext E170
        have f173 := f160.ext E170
        have f174 := f161.ext E170
        have f175 := f162.ext E170
        have f176 := f163.ext E170
        have f177 := f164.ext E170
        have f178 := FO157.ext E170
        have Z170 := Nat.le_trans Z157 E170.1
        show own_Go _ _ _ _ (T170.setTop (mkF m 223 #[.val (.int p1), .val (.int p2), .val (.int p3), .val (.int (0 : Int32)), .val (.int v4_2), .val (.int v5_3), .val (.ref bo4), .val (.int v7_5), .val (.int v8_6), .val (.int v9_7), .val (.ref bs119), .val (.ref bs127), .val (.ref b134), .val (.int (1 : Int32)), .unset] [(.ref b170), (.ref bs127)]))
        refine own_callS X170 hx hZ hown (hw _ (List.mem_of_getElem? (i := 70) rfl)) (hw _ (List.mem_of_getElem? (i := 71) rfl)) (hw _ (List.mem_of_getElem? (i := 72) rfl)) (hw _ (List.mem_of_getElem? (i := 73) rfl)) (by decide) (rm12 l Z a0 hw [] bs127 b170 b_AT_MOST_ONCE h170 n0 Z170 f172) e170 (by rw [hml]; rfl) [(.ref bs127), (.ref b170)] [] rfl (lenOf own_pd11 rfl) rfl 0 (Nat.le_of_eq rfl) (by decide) (by decide) (Nat.le_of_ble_eq_true rfl) (Nat.le_of_ble_eq_true rfl) (hb hby at_223) ?_
        intro T179 Lc179 v179 X179 hQ179
        obtain ⟨h179, e179⟩ : ∃ h, T179.heap = h := ⟨_, rfl⟩
        rw [e179] at hQ179
        obtain ⟨bf179, rfl, N179q, K179, EO179, FO179⟩ := hQ179
        have N179 := Fr.app N169 N179q
        have f180 := own_sta_keep f171 K179 ns0
        have f181 := own_sta_keep f172 K179 ns0
        have f182 := own_sta_keep f173 K179 ns0
        have f183 := own_sta_keep f174 K179 ns0
        have f184 := own_sta_keep f175 K179 ns0
        have f185 := f176.trans K179 all0
        have f186 := f177.keep K179
        have f187 := f178.keep K179 nin0
        have Z179 := Nat.le_trans Z170 K179.1
        have ks179 := Nat.le_trans ks170 K179.1
        show own_Go _ _ _ _ (T179.setTop (mkF m 226 #[.val (.int p1), .val (.int p2), .val (.int p3), .val (.int (0 : Int32)), .val (.int v4_2), .val (.int v5_3), .val (.ref bo4), .val (.int v7_5), .val (.int v8_6), .val (.int v9_7), .val (.ref bs119), .val (.ref bs127), .val (.ref b134), .val (.int (1 : Int32)), .unset] [(.ref bf179)]))
        refine own_callV X179 hx hZ hown (hw _ (List.mem_of_getElem? (i := 65) rfl)) (hw _ (List.mem_of_getElem? (i := 66) rfl)) (notFace_of_selects (args := #[]) (mvT hZ (hw _ (List.mem_of_getElem? (i := 68) rfl)))) (hw _ (List.mem_of_getElem? (i := 68) rfl)) (hw _ (List.mem_of_getElem? (i := 67) rfl)) (hw _ (List.mem_of_getElem? (i := 46) rfl)) (hw _ (List.mem_of_getElem? (i := 69) rfl)) (by decide) (rm11_n l Z a0 hw [] bf179 0 h179 n0 Z179 FO179) e179 bf179 EO179 (by rw [hml]; rfl) [] [] rfl (lenOf own_pd10 rfl) rfl 0 (Nat.le_of_eq rfl) (by decide) (by decide) (Nat.le_of_ble_eq_true rfl) (Nat.le_of_ble_eq_true rfl) (hb hby at_226) ?_
        intro T188 Lc188 v188 X188 hQ188
        obtain ⟨rfl, N188q, e188⟩ := hQ188
        have N188 := Fr.app N179 N188q
        show own_Go _ _ _ _ (T188.setTop (mkF m 229 #[.val (.int p1), .val (.int p2), .val (.int p3), .val (.int (0 : Int32)), .val (.int v4_2), .val (.int v5_3), .val (.ref bo4), .val (.int v7_5), .val (.int v8_6), .val (.int v9_7), .val (.ref bs119), .val (.ref bs127), .val (.ref b134), .val (.int (1 : Int32)), .unset] [(.int (0 : Int32))]))
        refine own_by (fun _ k => XS.ifNo X188.here hx rfl (hb hby at_229) rfl ((if0 _ _).trans (teq (by decide)).2) k) ?_
        refine own_by (fun _ k => XS.iconst X188.here hx rfl (hb hby at_232) k) ?_
        show own_Go _ _ _ _ (T188.setTop (mkF m 233 #[.val (.int p1), .val (.int p2), .val (.int p3), .val (.int (0 : Int32)), .val (.int v4_2), .val (.int v5_3), .val (.ref bo4), .val (.int v7_5), .val (.int v8_6), .val (.int v9_7), .val (.ref bs119), .val (.ref bs127), .val (.ref b134), .val (.int (1 : Int32)), .unset] [(.int (1 : Int32))]))
        refine own_by (fun _ k => XS.goto X188.here hx rfl (pc0 := 233) (pc' := 237) rfl (hb hby at_233) (by decide) (by decide) k) ?_
        show own_Go _ _ _ _ (T188.setTop (mkF m 237 #[.val (.int p1), .val (.int p2), .val (.int p3), .val (.int (0 : Int32)), .val (.int v4_2), .val (.int v5_3), .val (.ref bo4), .val (.int v7_5), .val (.int v8_6), .val (.int v9_7), .val (.ref bs119), .val (.ref bs127), .val (.ref b134), .val (.int (1 : Int32)), .unset] [(.int (1 : Int32))]))
        refine own_by (fun _ k => XS.istore X188.here hx rfl (hb hby at_237) rfl (l' := #[.val (.int p1), .val (.int p2), .val (.int p3), .val (.int (0 : Int32)), .val (.int v4_2), .val (.int v5_3), .val (.ref bo4), .val (.int v7_5), .val (.int v8_6), .val (.int v9_7), .val (.ref bs119), .val (.ref bs127), .val (.ref b134), .val (.int (1 : Int32)), .val (.int (1 : Int32))]) rfl k) ?_
        refine own_by (fun _ k => XS.iload X188.here hx rfl (hb hby at_239) rfl k) ?_
        show own_Go _ _ _ _ (T188.setTop (mkF m 241 #[.val (.int p1), .val (.int p2), .val (.int p3), .val (.int (0 : Int32)), .val (.int v4_2), .val (.int v5_3), .val (.ref bo4), .val (.int v7_5), .val (.int v8_6), .val (.int v9_7), .val (.ref bs119), .val (.ref bs127), .val (.ref b134), .val (.int (1 : Int32)), .val (.int (1 : Int32))] [(.int (1 : Int32))]))
        refine own_by (fun _ k => XS.ifNo X188.here hx rfl (hb hby at_241) rfl ((if0 _ _).trans (feq (by decide)).1) k) ?_
        refine own_by (fun _ k => XS.iload X188.here hx rfl (hb hby at_244) rfl k) ?_
        show own_Go _ _ _ _ (T188.setTop (mkF m 246 #[.val (.int p1), .val (.int p2), .val (.int p3), .val (.int (0 : Int32)), .val (.int v4_2), .val (.int v5_3), .val (.ref bo4), .val (.int v7_5), .val (.int v8_6), .val (.int v9_7), .val (.ref bs119), .val (.ref bs127), .val (.ref b134), .val (.int (1 : Int32)), .val (.int (1 : Int32))] [(.int (1 : Int32))]))
        refine own_by (fun _ k => XS.ifNo X188.here hx rfl (hb hby at_246) rfl ((if0 _ _).trans (feq (by decide)).1) k) ?_
        refine own_by (fun _ k => XS.iconst X188.here hx rfl (hb hby at_249) k) ?_
        show own_Go _ _ _ _ (T188.setTop (mkF m 250 #[.val (.int p1), .val (.int p2), .val (.int p3), .val (.int (0 : Int32)), .val (.int v4_2), .val (.int v5_3), .val (.ref bo4), .val (.int v7_5), .val (.int v8_6), .val (.int v9_7), .val (.ref bs119), .val (.ref bs127), .val (.ref b134), .val (.int (1 : Int32)), .val (.int (1 : Int32))] [(.int (1 : Int32))]))
        refine own_by (fun _ k => XS.goto X188.here hx rfl (pc0 := 250) (pc' := 254) rfl (hb hby at_250) (by decide) (by decide) k) ?_
        show own_Go _ _ _ _ (T188.setTop (mkF m 254 #[.val (.int p1), .val (.int p2), .val (.int p3), .val (.int (0 : Int32)), .val (.int v4_2), .val (.int v5_3), .val (.ref bo4), .val (.int v7_5), .val (.int v8_6), .val (.int v9_7), .val (.ref bs119), .val (.ref bs127), .val (.ref b134), .val (.int (1 : Int32)), .val (.int (1 : Int32))] [(.int (1 : Int32))]))
        exact own_retWN X188 hx Bd.notSynchronized e188 Bd.returns hS170 ks179 (by simp) (hb hby at_254) (⟨rfl, N188⟩) (by decide) (by decide)
      · --
        refine own_by (fun _ k => XS.icmpYes X4.here hx rfl (pc0 := 93) (pc' := 106) rfl (hb hby at_93) rfl (feq hc118).2 (by decide) (by decide) k) ?_
        refine own_by (fun _ k => XS.iload X4.here hx rfl (hb hby at_106) rfl k) ?_
        refine own_by (fun _ k => XS.iconst X4.here hx rfl (hb hby at_108) k) ?_
        show own_Go _ _ _ _ (T4.setTop (mkF m 109 #[.val (.int p1), .val (.int p2), .val (.int p3), .val (.int (0 : Int32)), .val (.int v4_2), .val (.int v5_3), .val (.ref bo4), .val (.int v7_5), .val (.int v8_6), .val (.int v9_7), .unset, .unset, .unset, .unset, .unset] [(.int (2 : Int32)), (.int v4_2)]))
        by_cases hc189 : v4_2 = (2 : Int32)
        · --
          refine own_by (fun _ k => XS.icmpNo X4.here hx rfl (hb hby at_109) rfl (teq hc189).2 k) ?_
          show own_Go _ _ _ _ (T4.setTop (mkF m 112 #[.val (.int p1), .val (.int p2), .val (.int p3), .val (.int (0 : Int32)), .val (.int v4_2), .val (.int v5_3), .val (.ref bo4), .val (.int v7_5), .val (.int v8_6), .val (.int v9_7), .unset, .unset, .unset, .unset, .unset] []))
          obtain ⟨T190, h190, X190, e190, E190, A190, D190, -, st190⟩ := newO X4 hx hZ hown (hw _ (List.mem_of_getElem? (i := 7) rfl)) (hw _ (List.mem_of_getElem? (i := 8) rfl)) (hw _ (List.mem_of_getElem? (i := 9) rfl)) e4 (g := (mkF m 112 #[.val (.int p1), .val (.int p2), .val (.int p3), .val (.int (0 : Int32)), .val (.int v4_2), .val (.int v5_3), .val (.ref bo4), .val (.int v7_5), .val (.int v8_6), .val (.int v9_7), .unset, .unset, .unset, .unset, .unset] [])) rfl (hb hby at_112) (by decide) (by decide)
          refine own_by st190 ?_
          show own_Go _ _ _ _ (T190.setTop (mkF m 115 #[.val (.int p1), .val (.int p2), .val (.int p3), .val (.int (0 : Int32)), .val (.int v4_2), .val (.int v5_3), .val (.ref bo4), .val (.int v7_5), .val (.int v8_6), .val (.int v9_7), .unset, .unset, .unset, .unset, .unset] [.ref h0.size]))
          obtain ⟨b190, g190⟩ : ∃ z, z = h0.size := ⟨_, rfl⟩
          rw [← g190] at A190 D190
          refine own_gen g190.symm (fun z_ => T190.setTop (mkF m 115 #[.val (.int p1), .val (.int p2), .val (.int p3), .val (.int (0 : Int32)), .val (.int v4_2), .val (.int v5_3), .val (.ref bo4), .val (.int v7_5), .val (.int v8_6), .val (.int v9_7), .unset, .unset, .unset, .unset, .unset] [.ref z_])) ?_
          have ge190 : n0 ≤ b190 := Nat.le_trans Z0 (Nat.le_of_eq g190.symm)
          have nw190 : h0.size ≤ b190 := Nat.le_trans (Keep.refl h0 []).1 (Nat.le_of_eq g190.symm)
          have f191 := PS_ONCE.ext E190
          have f192 := PS_AT_MOST_ONCE.ext E190
          have f193 := PS_AT_LEAST_ONCE.ext E190
          have f194 := PS_ANY_NUMBER.ext E190
          have f195 := PS.ext E190
          have f196 := (Keep.refl h0 []).ext E190
          have Z190 := Nat.le_trans Z0 E190.1
          have ks190 := Nat.le_trans k0 E190.1
          have f197 : Fld Z h190 b190 "java/lang/String" "value" "[B" .null := D190 (Or.inr (hw _ (List.mem_of_getElem? (i := 23) rfl))) (ty := (.array .byte)) (by decide)
          have f198 : Fld Z h190 b190 "java/lang/String" "coder" "B" (.int (0 : Int32)) := D190 (Or.inr (hw _ (List.mem_of_getElem? (i := 24) rfl))) (ty := .byte) (by decide)
          show own_Go _ _ _ _ (T190.setTop (mkF m 115 #[.val (.int p1), .val (.int p2), .val (.int p3), .val (.int (0 : Int32)), .val (.int v4_2), .val (.int v5_3), .val (.ref bo4), .val (.int v7_5), .val (.int v8_6), .val (.int v9_7), .unset, .unset, .unset, .unset, .unset] [(.ref b190)]))
          refine own_by (fun _ k => XS.dup X190.here hx rfl (hb hby at_115) rfl rfl k) ?_
          refine own_by (fun _ k => XS.iconst X190.here hx rfl (hb hby at_116) k) ?_
          show own_Go _ _ _ _ (T190.setTop (mkF m 117 #[.val (.int p1), .val (.int p2), .val (.int p3), .val (.int (0 : Int32)), .val (.int v4_2), .val (.int v5_3), .val (.ref bo4), .val (.int v7_5), .val (.int v8_6), .val (.int v9_7), .unset, .unset, .unset, .unset, .unset] [(.int (2 : Int32)), (.ref b190), (.ref b190)]))
          refine own_newP X190 hx hZ (hw _ (List.mem_of_getElem? (i := 10) rfl)) e190 2 (by decide) 2 (by decide) (by decide) (by decide) (by decide) (hb hby at_117) ?_
          intro T199 h199 X199 e199 E199 A199
          show own_Go _ _ _ _ (T199.setTop (mkF m 119 #[.val (.int p1), .val (.int p2), .val (.int p3), .val (.int (0 : Int32)), .val (.int v4_2), .val (.int v5_3), .val (.ref bo4), .val (.int v7_5), .val (.int v8_6), .val (.int v9_7), .unset, .unset, .unset, .unset, .unset] [.ref h190.size, (.ref b190), (.ref b190)]))
          obtain ⟨b199, g199⟩ : ∃ z, z = h190.size := ⟨_, rfl⟩
          rw [← g199] at A199
          refine own_gen g199.symm (fun z_ => T199.setTop (mkF m 119 #[.val (.int p1), .val (.int p2), .val (.int p3), .val (.int (0 : Int32)), .val (.int v4_2), .val (.int v5_3), .val (.ref bo4), .val (.int v7_5), .val (.int v8_6), .val (.int v9_7), .unset, .unset, .unset, .unset, .unset] [.ref z_, (.ref b190), (.ref b190)])) ?_
          have ne200 : b190 ≠ b199 := Nat.ne_of_lt (Nat.lt_of_lt_of_le A190.lt (Nat.le_of_eq g199.symm))
          have ge199 : n0 ≤ b199 := Nat.le_trans Z190 (Nat.le_of_eq g199.symm)
          have nw199 : h0.size ≤ b199 := Nat.le_trans f196.1 (Nat.le_of_eq g199.symm)
          have f201 := f191.ext E199
          have f202 := f192.ext E199
          have f203 := f193.ext E199
          have f204 := f194.ext E199
          have f205 := f195.ext E199
          have f206 := f196.ext E199
          have f207 := A190.ext E199
          have f208 := f197.ext E199
          have f209 := f198.ext E199
          have Z199 := Nat.le_trans Z190 E199.1
          have ks199 := Nat.le_trans ks190 E199.1
          have f210 : own_AI Z h199 b199 .char 2 (fun _ => 0) := A199
          show own_Go _ _ _ _ (T199.setTop (mkF m 119 #[.val (.int p1), .val (.int p2), .val (.int p3), .val (.int (0 : Int32)), .val (.int v4_2), .val (.int v5_3), .val (.ref bo4), .val (.int v7_5), .val (.int v8_6), .val (.int v9_7), .unset, .unset, .unset, .unset, .unset] [(.ref b199), (.ref b190), (.ref b190)]))
          refine own_by (fun _ k => XS.dup X199.here hx rfl (hb hby at_119) rfl rfl k) ?_
          refine own_by (fun _ k => XS.iconst X199.here hx rfl (hb hby at_120) k) ?_
          refine own_by (fun _ k => XS.iload X199.here hx rfl (hb hby at_121) rfl k) ?_
          show own_Go _ _ _ _ (T199.setTop (mkF m 123 #[.val (.int p1), .val (.int p2), .val (.int p3), .val (.int (0 : Int32)), .val (.int v4_2), .val (.int v5_3), .val (.ref bo4), .val (.int v7_5), .val (.int v8_6), .val (.int v9_7), .unset, .unset, .unset, .unset, .unset] [(.int v7_5), (.int (0 : Int32)), (.ref b199), (.ref b199), (.ref b190), (.ref b190)]))
          refine own_cas X199 hx hZ e199 f210 0 (by decide) (by decide) (hb hby at_123) ?_
          intro T211 h211 X211 e211 W211 A211
          have f212 := f201.wr W211
          have f213 := f202.wr W211
          have f214 := f203.wr W211
          have f215 := f204.wr W211
          have f216 := f205.wr W211
          have f217 := f206.wr W211 (Or.inr nw199)
          have f218 := f207.wr W211
          have f219 := f208.other W211 (Or.inl ne200)
          have f220 := f209.other W211 (Or.inl ne200)
          have N211 := Fr.snoc X211 N4 ge199
          have Z211 := own_size_wr W211 Z199
          have ks211 := own_size_wr W211 ks199
          obtain ⟨fn211, hfn211⟩ : ∃ gf_ : Nat → Int32, gf_ = own_upd (fun _ => 0) 0 (nar .char v7_5) := ⟨_, rfl⟩
          rw [← hfn211] at A211
          show own_Go _ _ _ _ (T211.setTop (mkF m 124 #[.val (.int p1), .val (.int p2), .val (.int p3), .val (.int (0 : Int32)), .val (.int v4_2), .val (.int v5_3), .val (.ref bo4), .val (.int v7_5), .val (.int v8_6), .val (.int v9_7), .unset, .unset, .unset, .unset, .unset] [(.ref b199), (.ref b190), (.ref b190)]))
          refine own_by (fun _ k => XS.dup X211.here hx rfl (hb hby at_124) rfl rfl k) ?_
          refine own_by (fun _ k => XS.iconst X211.here hx rfl (hb hby at_125) k) ?_
          refine own_by (fun _ k => XS.iload X211.here hx rfl (hb hby at_126) rfl k) ?_
          show own_Go _ _ _ _ (T211.setTop (mkF m 128 #[.val (.int p1), .val (.int p2), .val (.int p3), .val (.int (0 : Int32)), .val (.int v4_2), .val (.int v5_3), .val (.ref bo4), .val (.int v7_5), .val (.int v8_6), .val (.int v9_7), .unset, .unset, .unset, .unset, .unset] [(.int v8_6), (.int (1 : Int32)), (.ref b199), (.ref b199), (.ref b190), (.ref b190)]))
          refine own_cas X211 hx hZ e211 A211 1 (by decide) (by decide) (hb hby at_128) ?_
          intro T221 h221 X221 e221 W221 A221
          have f222 := f212.wr W221
          have f223 := f213.wr W221
          have f224 := f214.wr W221
          have f225 := f215.wr W221
          have f226 := f216.wr W221
          have f227 := f217.wr W221 (Or.inr nw199)
          have f228 := f218.wr W221
          have f229 := f219.other W221 (Or.inl ne200)
          have f230 := f220.other W221 (Or.inl ne200)
          have N221 := Fr.snoc X221 N211 ge199
          have Z221 := own_size_wr W221 Z211
          have ks221 := own_size_wr W221 ks211
          obtain ⟨fn221, hfn221⟩ : ∃ gf_ : Nat → Int32, gf_ = own_upd fn211 1 (nar .char v8_6) := ⟨_, rfl⟩
          rw [← hfn221] at A221
          show own_Go _ _ _ _ (T221.setTop (mkF m 129 #[.val (.int p1), .val (.int p2), .val (.int p3), .val (.int (0 : Int32)), .val (.int v4_2), .val (.int v5_3), .val (.ref bo4), .val (.int v7_5), .val (.int v8_6), .val (.int v9_7), .unset, .unset, .unset, .unset, .unset] [(.ref b199), (.ref b190), (.ref b190)]))
          refine own_callI X221 hx hZ hown rfl (hw _ (List.mem_of_getElem? (i := 11) rfl)) (hw _ (List.mem_of_getElem? (i := 12) rfl)) (hw _ (List.mem_of_getElem? (i := 9) rfl)) (hw _ (List.mem_of_getElem? (i := 13) rfl)) (by decide) (rm2_2 l Z a0 hw [] b190 b199 cs fn221 h221 n0 Z221 f228 f229 f230 ge190 f226 Pcs A221 ne200 (by rw [show fn221 0 = (nar .char v7_5) from by simp [own_upd, hfn221, hfn211]]; exact own_chn _ _ hv7_5) (by rw [show fn221 1 = (nar .char v8_6) from by simp [own_upd, hfn221]]; exact own_chn _ _ hv8_6)) e221 (by rw [hml]; rfl) b190 [(.ref b199)] [(.ref b190)] rfl (lenOf own_pd2 rfl) rfl 1 (Nat.le_of_eq rfl) (by decide) (by decide) (Nat.le_of_ble_eq_true rfl) (Nat.le_of_ble_eq_true rfl) (hb hby at_129) ?_
          intro T231 Lc231 v231 X231 hQ231
          obtain ⟨h231, e231⟩ : ∃ h, T231.heap = h := ⟨_, rfl⟩
          rw [e231] at hQ231
          obtain ⟨rfl, N231q, K231⟩ := hQ231
          have N231 := Fr.app N221 N231q
          have f232 := own_sta_keep f222 K231 (nsS f228.nostat ns0)
          have f233 := own_sta_keep f223 K231 (nsS f228.nostat ns0)
          have f234 := own_sta_keep f224 K231 (nsS f228.nostat ns0)
          have f235 := own_sta_keep f225 K231 (nsS f228.nostat ns0)
          have f236 := own_sta_keep f226 K231 (nsS f228.nostat ns0)
          have f237 := f227.trans K231 (allS (P := fun x => x ∈ [] ∨ h0.size ≤ x) (Or.inr nw190) all0)
          have f238 := f228.keep K231
          have f241 := A221.keep K231 (ninS (Ne.symm ne200) nin0)
          have Z231 := Nat.le_trans Z221 K231.1
          have ks231 := Nat.le_trans ks221 K231.1
          show own_Go _ _ _ _ (T231.setTop (mkF m 132 #[.val (.int p1), .val (.int p2), .val (.int p3), .val (.int (0 : Int32)), .val (.int v4_2), .val (.int v5_3), .val (.ref bo4), .val (.int v7_5), .val (.int v8_6), .val (.int v9_7), .unset, .unset, .unset, .unset, .unset] [(.ref b190)]))
          refine own_by (fun _ k => XS.astore X231.here hx rfl (hb hby at_132) rfl rfl (l' := #[.val (.int p1), .val (.int p2), .val (.int p3), .val (.int (0 : Int32)), .val (.int v4_2), .val (.int v5_3), .val (.ref bo4), .val (.int v7_5), .val (.int v8_6), .val (.int v9_7), .val (.ref b190), .unset, .unset, .unset, .unset]) rfl k) ?_
          show own_Go _ _ _ _ (T231.setTop (mkF m 134 #[.val (.int p1), .val (.int p2), .val (.int p3), .val (.int (0 : Int32)), .val (.int v4_2), .val (.int v5_3), .val (.ref bo4), .val (.int v7_5), .val (.int v8_6), .val (.int v9_7), .val (.ref b190), .unset, .unset, .unset, .unset] []))
          refine own_by (fun _ k => XS.goto X231.here hx rfl (pc0 := 134) (pc' := 164) rfl (hb hby at_134) (by decide) (by decide) k) ?_
          refine own_by (fun _ k => XS.iloadN X231.here hx rfl (hb hby at_164) rfl k) ?_
          refine own_by (fun _ k => XS.bipush X231.here hx rfl (hb hby at_165) k) ?_
          show own_Go _ _ _ _ (T231.setTop (mkF m 167 #[.val (.int p1), .val (.int p2), .val (.int p3), .val (.int (0 : Int32)), .val (.int v4_2), .val (.int v5_3), .val (.ref bo4), .val (.int v7_5), .val (.int v8_6), .val (.int v9_7), .val (.ref b190), .unset, .unset, .unset, .unset] [(.int (8 : Int32)), (.int p3)]))
          refine own_by (fun _ k => XS.iushr X231.here hx rfl (hb hby at_167) rfl k) ?_
          refine own_by (fun _ k => XS.sipush X231.here hx rfl (hb hby at_168) k) ?_
          show own_Go _ _ _ _ (T231.setTop (mkF m 171 #[.val (.int p1), .val (.int p2), .val (.int p3), .val (.int (0 : Int32)), .val (.int v4_2), .val (.int v5_3), .val (.ref bo4), .val (.int v7_5), .val (.int v8_6), .val (.int v9_7), .val (.ref b190), .unset, .unset, .unset, .unset] [(.int (255 : Int32)), (.int ((p3.toUInt32 >>> ((8 : Int32) &&& 31).toUInt32).toInt32))]))
          refine own_by (fun _ k => XS.iand X231.here hx rfl (hb hby at_171) rfl k) ?_
          show own_Go _ _ _ _ (T231.setTop (mkF m 172 #[.val (.int p1), .val (.int p2), .val (.int p3), .val (.int (0 : Int32)), .val (.int v4_2), .val (.int v5_3), .val (.ref bo4), .val (.int v7_5), .val (.int v8_6), .val (.int v9_7), .val (.ref b190), .unset, .unset, .unset, .unset] [(.int (((p3.toUInt32 >>> ((8 : Int32) &&& 31).toUInt32).toInt32) &&& (255 : Int32)))]))
          refine own_by (fun _ k => XS.i2c X231.here hx rfl (hb hby at_172) rfl k) ?_
          show own_Go _ _ _ _ (T231.setTop (mkF m 173 #[.val (.int p1), .val (.int p2), .val (.int p3), .val (.int (0 : Int32)), .val (.int v4_2), .val (.int v5_3), .val (.ref bo4), .val (.int v7_5), .val (.int v8_6), .val (.int v9_7), .val (.ref b190), .unset, .unset, .unset, .unset] [(.int ((((p3.toUInt32 >>> ((8 : Int32) &&& 31).toUInt32).toInt32) &&& (255 : Int32)).toUInt32.toUInt16.toUInt32.toInt32))]))
          obtain ⟨g242, hg242⟩ : ∃ z_ : Int32, ((((p3.toUInt32 >>> ((8 : Int32) &&& 31).toUInt32).toInt32) &&& (255 : Int32)).toUInt32.toUInt16.toUInt32.toInt32) = z_ := ⟨_, rfl⟩
          refine own_gen hg242 (fun z_ => T231.setTop (mkF m 173 #[.val (.int p1), .val (.int p2), .val (.int p3), .val (.int (0 : Int32)), .val (.int v4_2), .val (.int v5_3), .val (.ref bo4), .val (.int v7_5), .val (.int v8_6), .val (.int v9_7), .val (.ref b190), .unset, .unset, .unset, .unset] [(.int z_)])) ?_
          refine own_callS X231 hx hZ hown (hw _ (List.mem_of_getElem? (i := 29) rfl)) (hw _ (List.mem_of_getElem? (i := 30) rfl)) (hw _ (List.mem_of_getElem? (i := 9) rfl)) (hw _ (List.mem_of_getElem? (i := 31) rfl)) (by decide) (rm5 l Z a0 hw [] g242 cs h231 n0 Z231 f236 Pcs (own_ch _ _ hg242)) e231 (by rw [hml]; rfl) [(.int g242)] [] rfl (lenOf own_pd5 rfl) rfl 0 (Nat.le_of_eq rfl) (by decide) (by decide) (Nat.le_of_ble_eq_true rfl) (Nat.le_of_ble_eq_true rfl) (hb hby at_173) ?_
          intro T243 Lc243 v243 X243 hQ243
          obtain ⟨h243, e243⟩ : ∃ h, T243.heap = h := ⟨_, rfl⟩
          rw [e243] at hQ243
          obtain ⟨bs243, rfl, N243q, K243⟩ := hQ243
          have N243 := Fr.app N231 N243q
          have f244 := own_sta_keep f232 K243 ns0
          have f245 := own_sta_keep f233 K243 ns0
          have f246 := own_sta_keep f234 K243 ns0
          have f247 := own_sta_keep f235 K243 ns0
          have f248 := own_sta_keep f236 K243 ns0
          have f249 := f237.trans K243 all0
          have f250 := f238.keep K243
          have f251 := f241.keep K243 nin0
          have Z243 := Nat.le_trans Z231 K243.1
          have ks243 := Nat.le_trans ks231 K243.1
          show own_Go _ _ _ _ (T243.setTop (mkF m 176 #[.val (.int p1), .val (.int p2), .val (.int p3), .val (.int (0 : Int32)), .val (.int v4_2), .val (.int v5_3), .val (.ref bo4), .val (.int v7_5), .val (.int v8_6), .val (.int v9_7), .val (.ref b190), .unset, .unset, .unset, .unset] [(.ref bs243)]))
          refine own_by (fun _ k => XS.astore X243.here hx rfl (hb hby at_176) rfl rfl (l' := #[.val (.int p1), .val (.int p2), .val (.int p3), .val (.int (0 : Int32)), .val (.int v4_2), .val (.int v5_3), .val (.ref bo4), .val (.int v7_5), .val (.int v8_6), .val (.int v9_7), .val (.ref b190), .val (.ref bs243), .unset, .unset, .unset]) rfl k) ?_
          show own_Go _ _ _ _ (T243.setTop (mkF m 178 #[.val (.int p1), .val (.int p2), .val (.int p3), .val (.int (0 : Int32)), .val (.int v4_2), .val (.int v5_3), .val (.ref bo4), .val (.int v7_5), .val (.int v8_6), .val (.int v9_7), .val (.ref b190), .val (.ref bs243), .unset, .unset, .unset] []))
          obtain ⟨T252, h252, X252, e252, E252, A252, D252, -, st252⟩ := newO X243 hx hZ hown (hw _ (List.mem_of_getElem? (i := 44) rfl)) (hw _ (List.mem_of_getElem? (i := 45) rfl)) (hw _ (List.mem_of_getElem? (i := 46) rfl)) e243 (g := (mkF m 178 #[.val (.int p1), .val (.int p2), .val (.int p3), .val (.int (0 : Int32)), .val (.int v4_2), .val (.int v5_3), .val (.ref bo4), .val (.int v7_5), .val (.int v8_6), .val (.int v9_7), .val (.ref b190), .val (.ref bs243), .unset, .unset, .unset] [])) rfl (hb hby at_178) (by decide) (by decide)
          refine own_by st252 ?_
          show own_Go _ _ _ _ (T252.setTop (mkF m 181 #[.val (.int p1), .val (.int p2), .val (.int p3), .val (.int (0 : Int32)), .val (.int v4_2), .val (.int v5_3), .val (.ref bo4), .val (.int v7_5), .val (.int v8_6), .val (.int v9_7), .val (.ref b190), .val (.ref bs243), .unset, .unset, .unset] [.ref h243.size]))
          obtain ⟨b252, g252⟩ : ∃ z, z = h243.size := ⟨_, rfl⟩
          rw [← g252] at A252 D252
          refine own_gen g252.symm (fun z_ => T252.setTop (mkF m 181 #[.val (.int p1), .val (.int p2), .val (.int p3), .val (.int (0 : Int32)), .val (.int v4_2), .val (.int v5_3), .val (.ref bo4), .val (.int v7_5), .val (.int v8_6), .val (.int v9_7), .val (.ref b190), .val (.ref bs243), .unset, .unset, .unset] [.ref z_])) ?_
          have ne253 : b199 ≠ b252 := Nat.ne_of_lt (Nat.lt_of_lt_of_le f251.lt (Nat.le_of_eq g252.symm))
          have ne254 : b190 ≠ b252 := Nat.ne_of_lt (Nat.lt_of_lt_of_le f250.lt (Nat.le_of_eq g252.symm))
          have ge252 : n0 ≤ b252 := Nat.le_trans Z243 (Nat.le_of_eq g252.symm)
          have nw252 : h0.size ≤ b252 := Nat.le_trans f249.1 (Nat.le_of_eq g252.symm)
          have f255 := f244.ext E252
          have f256 := f245.ext E252
          have f257 := f246.ext E252
          have f258 := f247.ext E252
          have f259 := f248.ext E252
          have f260 := f249.ext E252
          have f261 := f250.ext E252
          have f262 := f251.ext E252
          have Z252 := Nat.le_trans Z243 E252.1
          have ks252 := Nat.le_trans ks243 E252.1
          have f263 : Fld Z h252 b252 "com/example/time_for_trials/timefortrials/cli/Usage$Option" "name" "Ljava/lang/String;" .null := D252 (Or.inr (hw _ (List.mem_of_getElem? (i := 58) rfl))) (ty := (.object "java/lang/String")) (by decide)
          have f264 : Fld Z h252 b252 "com/example/time_for_trials/timefortrials/cli/Usage$Option" "value" "Ljava/lang/String;" .null := D252 (Or.inr (hw _ (List.mem_of_getElem? (i := 60) rfl))) (ty := (.object "java/lang/String")) (by decide)
          have f265 : Fld Z h252 b252 "com/example/time_for_trials/timefortrials/cli/Usage$Option" "occurs" "Lcom/example/time_for_trials/timefortrials/cli/Usage$Occurs;" .null := D252 (Or.inr (hw _ (List.mem_of_getElem? (i := 62) rfl))) (ty := (.object "com/example/time_for_trials/timefortrials/cli/Usage$Occurs")) (by decide)
          have f266 : Fld Z h252 b252 "com/example/time_for_trials/timefortrials/cli/Usage$Option" "description" "Ljava/lang/String;" .null := D252 (Or.inr (hw _ (List.mem_of_getElem? (i := 64) rfl))) (ty := (.object "java/lang/String")) (by decide)
          show own_Go _ _ _ _ (T252.setTop (mkF m 181 #[.val (.int p1), .val (.int p2), .val (.int p3), .val (.int (0 : Int32)), .val (.int v4_2), .val (.int v5_3), .val (.ref bo4), .val (.int v7_5), .val (.int v8_6), .val (.int v9_7), .val (.ref b190), .val (.ref bs243), .unset, .unset, .unset] [(.ref b252)]))
          refine own_by (fun _ k => XS.dup X252.here hx rfl (hb hby at_181) rfl rfl k) ?_
          refine own_by (fun _ k => XS.aload X252.here hx rfl (hb hby at_182) rfl rfl k) ?_
          refine own_by (fun _ k => XS.aload X252.here hx rfl (hb hby at_184) rfl rfl k) ?_
          show own_Go _ _ _ _ (T252.setTop (mkF m 186 #[.val (.int p1), .val (.int p2), .val (.int p3), .val (.int (0 : Int32)), .val (.int v4_2), .val (.int v5_3), .val (.ref bo4), .val (.int v7_5), .val (.int v8_6), .val (.int v9_7), .val (.ref b190), .val (.ref bs243), .unset, .unset, .unset] [(.ref b190), (.ref bs243), (.ref b252), (.ref b252)]))
          refine own_by (fun _ k => XS.aload X252.here hx rfl (hb hby at_186) rfl rfl k) ?_
          show own_Go _ _ _ _ (T252.setTop (mkF m 188 #[.val (.int p1), .val (.int p2), .val (.int p3), .val (.int (0 : Int32)), .val (.int v4_2), .val (.int v5_3), .val (.ref bo4), .val (.int v7_5), .val (.int v8_6), .val (.int v9_7), .val (.ref b190), .val (.ref bs243), .unset, .unset, .unset] [(.ref bo4), (.ref b190), (.ref bs243), (.ref b252), (.ref b252)]))
          refine own_ldcS X252 hx hZ hown (hw _ (List.mem_of_getElem? (i := 47) rfl)) (own_wS hw) e252 hS0 ks252 (hb hby at_188) 4 (by decide) (by decide) (by decide) (by decide) ?_
          intro b267 T267 h267 kk267 X267 e267 E267 hS267 ks267 hZ hown
          have f268 := f255.ext E267
          have f269 := f256.ext E267
          have f270 := f257.ext E267
          have f271 := f258.ext E267
          have f272 := f259.ext E267
          have f273 := f260.ext E267
          have f274 := f261.ext E267
          have f275 := f262.ext E267
          have f276 := A252.ext E267
          have f277 := f263.ext E267
          have f278 := f264.ext E267
          have f279 := f265.ext E267
          have f280 := f266.ext E267
          have Z267 := Nat.le_trans Z252 E267.1
          show own_Go _ _ _ _ (T267.setTop (mkF m 190 #[.val (.int p1), .val (.int p2), .val (.int p3), .val (.int (0 : Int32)), .val (.int v4_2), .val (.int v5_3), .val (.ref bo4), .val (.int v7_5), .val (.int v8_6), .val (.int v9_7), .val (.ref b190), .val (.ref bs243), .unset, .unset, .unset] [(.ref b267), (.ref bo4), (.ref b190), (.ref bs243), (.ref b252), (.ref b252)]))
          refine own_callI X267 hx hZ hown rfl (hw _ (List.mem_of_getElem? (i := 48) rfl)) (hw _ (List.mem_of_getElem? (i := 49) rfl)) (hw _ (List.mem_of_getElem? (i := 46) rfl)) (hw _ (List.mem_of_getElem? (i := 50) rfl)) (by decide) (rm9_v l Z a0 hw [] b252 bs243 b190 bo4 b267 h267 n0 Z267 f276 f277 f278 f279 f280 ge252) e267 (by rw [hml]; rfl) b252 [(.ref bs243), (.ref b190), (.ref bo4), (.ref b267)] [(.ref b252)] rfl (lenOf own_pd9 rfl) rfl 1 (Nat.le_of_eq rfl) (by decide) (by decide) (Nat.le_of_ble_eq_true rfl) (Nat.le_of_ble_eq_true rfl) (hb hby at_190) ?_
          intro T281 Lc281 v281 X281 hQ281
          obtain ⟨h281, e281⟩ : ∃ h, T281.heap = h := ⟨_, rfl⟩
          rw [e281] at hQ281
          obtain ⟨rfl, N281q, K281, FO281⟩ := hQ281
          have N281 := Fr.app N243 N281q
          have f282 := own_sta_keep f268 K281 (nsS f276.nostat ns0)
          have f283 := own_sta_keep f269 K281 (nsS f276.nostat ns0)
          have f284 := own_sta_keep f270 K281 (nsS f276.nostat ns0)
          have f285 := own_sta_keep f271 K281 (nsS f276.nostat ns0)
          have f286 := own_sta_keep f272 K281 (nsS f276.nostat ns0)
          have f287 := f273.trans K281 (allS (P := fun x => x ∈ [] ∨ h0.size ≤ x) (Or.inr nw252) all0)
          have f288 := f274.keep K281
          have f289 := f275.keep K281 (ninS ne253 nin0)
          have f290 := f276.keep K281
          have Z281 := Nat.le_trans Z267 K281.1
          have ks281 := Nat.le_trans ks267 K281.1
          show own_Go _ _ _ _ (T281.setTop (mkF m 193 #[.val (.int p1), .val (.int p2), .val (.int p3), .val (.int (0 : Int32)), .val (.int v4_2), .val (.int v5_3), .val (.ref bo4), .val (.int v7_5), .val (.int v8_6), .val (.int v9_7), .val (.ref b190), .val (.ref bs243), .unset, .unset, .unset] [(.ref b252)]))
          refine own_by (fun _ k => XS.astore X281.here hx rfl (hb hby at_193) rfl rfl (l' := #[.val (.int p1), .val (.int p2), .val (.int p3), .val (.int (0 : Int32)), .val (.int v4_2), .val (.int v5_3), .val (.ref bo4), .val (.int v7_5), .val (.int v8_6), .val (.int v9_7), .val (.ref b190), .val (.ref bs243), .val (.ref b252), .unset, .unset]) rfl k) ?_
          refine own_by (fun _ k => XS.aload X281.here hx rfl (hb hby at_195) rfl rfl k) ?_
          show own_Go _ _ _ _ (T281.setTop (mkF m 197 #[.val (.int p1), .val (.int p2), .val (.int p3), .val (.int (0 : Int32)), .val (.int v4_2), .val (.int v5_3), .val (.ref bo4), .val (.int v7_5), .val (.int v8_6), .val (.int v9_7), .val (.ref b190), .val (.ref bs243), .val (.ref b252), .unset, .unset] [(.ref b252)]))
          refine own_callV X281 hx hZ hown (hw _ (List.mem_of_getElem? (i := 65) rfl)) (hw _ (List.mem_of_getElem? (i := 66) rfl)) (notFace_of_selects (args := #[]) (mvT hZ (hw _ (List.mem_of_getElem? (i := 68) rfl)))) (hw _ (List.mem_of_getElem? (i := 68) rfl)) (hw _ (List.mem_of_getElem? (i := 67) rfl)) (hw _ (List.mem_of_getElem? (i := 46) rfl)) (hw _ (List.mem_of_getElem? (i := 69) rfl)) (by decide) (rm11_v l Z a0 hw [] b252 b190 h281 n0 Z281 FO281) e281 b252 f290 (by rw [hml]; rfl) [] [] rfl (lenOf own_pd10 rfl) rfl 0 (Nat.le_of_eq rfl) (by decide) (by decide) (Nat.le_of_ble_eq_true rfl) (Nat.le_of_ble_eq_true rfl) (hb hby at_197) ?_
          intro T295 Lc295 v295 X295 hQ295
          obtain ⟨rfl, N295q, e295⟩ := hQ295
          have N295 := Fr.app N281 N295q
          show own_Go _ _ _ _ (T295.setTop (mkF m 200 #[.val (.int p1), .val (.int p2), .val (.int p3), .val (.int (0 : Int32)), .val (.int v4_2), .val (.int v5_3), .val (.ref bo4), .val (.int v7_5), .val (.int v8_6), .val (.int v9_7), .val (.ref b190), .val (.ref bs243), .val (.ref b252), .unset, .unset] [(.int (1 : Int32))]))
          refine own_by (fun _ k => XS.iloadN X295.here hx rfl (hb hby at_200) rfl k) ?_
          show own_Go _ _ _ _ (T295.setTop (mkF m 201 #[.val (.int p1), .val (.int p2), .val (.int p3), .val (.int (0 : Int32)), .val (.int v4_2), .val (.int v5_3), .val (.ref bo4), .val (.int v7_5), .val (.int v8_6), .val (.int v9_7), .val (.ref b190), .val (.ref bs243), .val (.ref b252), .unset, .unset] [(.int (0 : Int32)), (.int (1 : Int32))]))
          refine own_by (fun _ k => XS.ifNo X295.here hx rfl (hb hby at_201) rfl ((if0 _ _).trans (teq (by decide)).2) k) ?_
          refine own_by (fun _ k => XS.iconst X295.here hx rfl (hb hby at_204) k) ?_
          show own_Go _ _ _ _ (T295.setTop (mkF m 205 #[.val (.int p1), .val (.int p2), .val (.int p3), .val (.int (0 : Int32)), .val (.int v4_2), .val (.int v5_3), .val (.ref bo4), .val (.int v7_5), .val (.int v8_6), .val (.int v9_7), .val (.ref b190), .val (.ref bs243), .val (.ref b252), .unset, .unset] [(.int (1 : Int32)), (.int (1 : Int32))]))
          refine own_by (fun _ k => XS.goto X295.here hx rfl (pc0 := 205) (pc' := 209) rfl (hb hby at_205) (by decide) (by decide) k) ?_
          show own_Go _ _ _ _ (T295.setTop (mkF m 209 #[.val (.int p1), .val (.int p2), .val (.int p3), .val (.int (0 : Int32)), .val (.int v4_2), .val (.int v5_3), .val (.ref bo4), .val (.int v7_5), .val (.int v8_6), .val (.int v9_7), .val (.ref b190), .val (.ref bs243), .val (.ref b252), .unset, .unset] [(.int (1 : Int32)), (.int (1 : Int32))]))
          refine own_by (fun _ k => XS.icmpNo X295.here hx rfl (hb hby at_209) rfl (teq (by decide)).2 k) ?_
          refine own_by (fun _ k => XS.iconst X295.here hx rfl (hb hby at_212) k) ?_
          show own_Go _ _ _ _ (T295.setTop (mkF m 213 #[.val (.int p1), .val (.int p2), .val (.int p3), .val (.int (0 : Int32)), .val (.int v4_2), .val (.int v5_3), .val (.ref bo4), .val (.int v7_5), .val (.int v8_6), .val (.int v9_7), .val (.ref b190), .val (.ref bs243), .val (.ref b252), .unset, .unset] [(.int (1 : Int32))]))
          refine own_by (fun _ k => XS.goto X295.here hx rfl (pc0 := 213) (pc' := 217) rfl (hb hby at_213) (by decide) (by decide) k) ?_
          show own_Go _ _ _ _ (T295.setTop (mkF m 217 #[.val (.int p1), .val (.int p2), .val (.int p3), .val (.int (0 : Int32)), .val (.int v4_2), .val (.int v5_3), .val (.ref bo4), .val (.int v7_5), .val (.int v8_6), .val (.int v9_7), .val (.ref b190), .val (.ref bs243), .val (.ref b252), .unset, .unset] [(.int (1 : Int32))]))
          refine own_by (fun _ k => XS.istore X295.here hx rfl (hb hby at_217) rfl (l' := #[.val (.int p1), .val (.int p2), .val (.int p3), .val (.int (0 : Int32)), .val (.int v4_2), .val (.int v5_3), .val (.ref bo4), .val (.int v7_5), .val (.int v8_6), .val (.int v9_7), .val (.ref b190), .val (.ref bs243), .val (.ref b252), .val (.int (1 : Int32)), .unset]) rfl k) ?_
          refine own_by (fun _ k => XS.aload X295.here hx rfl (hb hby at_219) rfl rfl k) ?_
          show own_Go _ _ _ _ (T295.setTop (mkF m 221 #[.val (.int p1), .val (.int p2), .val (.int p3), .val (.int (0 : Int32)), .val (.int v4_2), .val (.int v5_3), .val (.ref bo4), .val (.int v7_5), .val (.int v8_6), .val (.int v9_7), .val (.ref b190), .val (.ref bs243), .val (.ref b252), .val (.int (1 : Int32)), .unset] [(.ref bs243)]))
          refine own_ldcS X295 hx hZ hown (hw _ (List.mem_of_getElem? (i := 47) rfl)) (own_wS hw) e295 hS267 ks281 (hb hby at_221) 4 (by decide) (by decide) (by decide) (by decide) ?_
          intro b296 T296 h296 kk296 X296 e296 E296 hS296 ks296 hZ hown
          have f297 := f282.ext E296
          have f298 := f283.ext E296
          have f299 := f284.ext E296
          have f300 := f285.ext E296
          have f301 := f286.ext E296
          have f302 := f287.ext E296
          have f303 := f288.ext E296
          have f304 := f289.ext E296
          have f305 := f290.ext E296
          have f306 := FO281.ext E296
          have Z296 := Nat.le_trans Z281 E296.1
          show own_Go _ _ _ _ (T296.setTop (mkF m 223 #[.val (.int p1), .val (.int p2), .val (.int p3), .val (.int (0 : Int32)), .val (.int v4_2), .val (.int v5_3), .val (.ref bo4), .val (.int v7_5), .val (.int v8_6), .val (.int v9_7), .val (.ref b190), .val (.ref bs243), .val (.ref b252), .val (.int (1 : Int32)), .unset] [(.ref b296), (.ref bs243)]))
          refine own_callS X296 hx hZ hown (hw _ (List.mem_of_getElem? (i := 70) rfl)) (hw _ (List.mem_of_getElem? (i := 71) rfl)) (hw _ (List.mem_of_getElem? (i := 72) rfl)) (hw _ (List.mem_of_getElem? (i := 73) rfl)) (by decide) (rm12 l Z a0 hw [] bs243 b296 b_AT_MOST_ONCE h296 n0 Z296 f298) e296 (by rw [hml]; rfl) [(.ref bs243), (.ref b296)] [] rfl (lenOf own_pd11 rfl) rfl 0 (Nat.le_of_eq rfl) (by decide) (by decide) (Nat.le_of_ble_eq_true rfl) (Nat.le_of_ble_eq_true rfl) (hb hby at_223) ?_
          intro T307 Lc307 v307 X307 hQ307
          obtain ⟨h307, e307⟩ : ∃ h, T307.heap = h := ⟨_, rfl⟩
          rw [e307] at hQ307
          obtain ⟨bf307, rfl, N307q, K307, EO307, FO307⟩ := hQ307
          have N307 := Fr.app N295 N307q
          have f308 := own_sta_keep f297 K307 ns0
          have f309 := own_sta_keep f298 K307 ns0
          have f310 := own_sta_keep f299 K307 ns0
          have f311 := own_sta_keep f300 K307 ns0
          have f312 := own_sta_keep f301 K307 ns0
          have f313 := f302.trans K307 all0
          have f314 := f303.keep K307
          have f315 := f304.keep K307 nin0
          have f316 := f305.keep K307
          have f317 := f306.keep K307 nin0
          have Z307 := Nat.le_trans Z296 K307.1
          have ks307 := Nat.le_trans ks296 K307.1
          show own_Go _ _ _ _ (T307.setTop (mkF m 226 #[.val (.int p1), .val (.int p2), .val (.int p3), .val (.int (0 : Int32)), .val (.int v4_2), .val (.int v5_3), .val (.ref bo4), .val (.int v7_5), .val (.int v8_6), .val (.int v9_7), .val (.ref b190), .val (.ref bs243), .val (.ref b252), .val (.int (1 : Int32)), .unset] [(.ref bf307)]))
          refine own_callV X307 hx hZ hown (hw _ (List.mem_of_getElem? (i := 65) rfl)) (hw _ (List.mem_of_getElem? (i := 66) rfl)) (notFace_of_selects (args := #[]) (mvT hZ (hw _ (List.mem_of_getElem? (i := 68) rfl)))) (hw _ (List.mem_of_getElem? (i := 68) rfl)) (hw _ (List.mem_of_getElem? (i := 67) rfl)) (hw _ (List.mem_of_getElem? (i := 46) rfl)) (hw _ (List.mem_of_getElem? (i := 69) rfl)) (by decide) (rm11_n l Z a0 hw [] bf307 0 h307 n0 Z307 FO307) e307 bf307 EO307 (by rw [hml]; rfl) [] [] rfl (lenOf own_pd10 rfl) rfl 0 (Nat.le_of_eq rfl) (by decide) (by decide) (Nat.le_of_ble_eq_true rfl) (Nat.le_of_ble_eq_true rfl) (hb hby at_226) ?_
          intro T318 Lc318 v318 X318 hQ318
          obtain ⟨rfl, N318q, e318⟩ := hQ318
          have N318 := Fr.app N307 N318q
          show own_Go _ _ _ _ (T318.setTop (mkF m 229 #[.val (.int p1), .val (.int p2), .val (.int p3), .val (.int (0 : Int32)), .val (.int v4_2), .val (.int v5_3), .val (.ref bo4), .val (.int v7_5), .val (.int v8_6), .val (.int v9_7), .val (.ref b190), .val (.ref bs243), .val (.ref b252), .val (.int (1 : Int32)), .unset] [(.int (0 : Int32))]))
          refine own_by (fun _ k => XS.ifNo X318.here hx rfl (hb hby at_229) rfl ((if0 _ _).trans (teq (by decide)).2) k) ?_
          refine own_by (fun _ k => XS.iconst X318.here hx rfl (hb hby at_232) k) ?_
          show own_Go _ _ _ _ (T318.setTop (mkF m 233 #[.val (.int p1), .val (.int p2), .val (.int p3), .val (.int (0 : Int32)), .val (.int v4_2), .val (.int v5_3), .val (.ref bo4), .val (.int v7_5), .val (.int v8_6), .val (.int v9_7), .val (.ref b190), .val (.ref bs243), .val (.ref b252), .val (.int (1 : Int32)), .unset] [(.int (1 : Int32))]))
          refine own_by (fun _ k => XS.goto X318.here hx rfl (pc0 := 233) (pc' := 237) rfl (hb hby at_233) (by decide) (by decide) k) ?_
          show own_Go _ _ _ _ (T318.setTop (mkF m 237 #[.val (.int p1), .val (.int p2), .val (.int p3), .val (.int (0 : Int32)), .val (.int v4_2), .val (.int v5_3), .val (.ref bo4), .val (.int v7_5), .val (.int v8_6), .val (.int v9_7), .val (.ref b190), .val (.ref bs243), .val (.ref b252), .val (.int (1 : Int32)), .unset] [(.int (1 : Int32))]))
          refine own_by (fun _ k => XS.istore X318.here hx rfl (hb hby at_237) rfl (l' := #[.val (.int p1), .val (.int p2), .val (.int p3), .val (.int (0 : Int32)), .val (.int v4_2), .val (.int v5_3), .val (.ref bo4), .val (.int v7_5), .val (.int v8_6), .val (.int v9_7), .val (.ref b190), .val (.ref bs243), .val (.ref b252), .val (.int (1 : Int32)), .val (.int (1 : Int32))]) rfl k) ?_
          refine own_by (fun _ k => XS.iload X318.here hx rfl (hb hby at_239) rfl k) ?_
          show own_Go _ _ _ _ (T318.setTop (mkF m 241 #[.val (.int p1), .val (.int p2), .val (.int p3), .val (.int (0 : Int32)), .val (.int v4_2), .val (.int v5_3), .val (.ref bo4), .val (.int v7_5), .val (.int v8_6), .val (.int v9_7), .val (.ref b190), .val (.ref bs243), .val (.ref b252), .val (.int (1 : Int32)), .val (.int (1 : Int32))] [(.int (1 : Int32))]))
          refine own_by (fun _ k => XS.ifNo X318.here hx rfl (hb hby at_241) rfl ((if0 _ _).trans (feq (by decide)).1) k) ?_
          refine own_by (fun _ k => XS.iload X318.here hx rfl (hb hby at_244) rfl k) ?_
          show own_Go _ _ _ _ (T318.setTop (mkF m 246 #[.val (.int p1), .val (.int p2), .val (.int p3), .val (.int (0 : Int32)), .val (.int v4_2), .val (.int v5_3), .val (.ref bo4), .val (.int v7_5), .val (.int v8_6), .val (.int v9_7), .val (.ref b190), .val (.ref bs243), .val (.ref b252), .val (.int (1 : Int32)), .val (.int (1 : Int32))] [(.int (1 : Int32))]))
          refine own_by (fun _ k => XS.ifNo X318.here hx rfl (hb hby at_246) rfl ((if0 _ _).trans (feq (by decide)).1) k) ?_
          refine own_by (fun _ k => XS.iconst X318.here hx rfl (hb hby at_249) k) ?_
          show own_Go _ _ _ _ (T318.setTop (mkF m 250 #[.val (.int p1), .val (.int p2), .val (.int p3), .val (.int (0 : Int32)), .val (.int v4_2), .val (.int v5_3), .val (.ref bo4), .val (.int v7_5), .val (.int v8_6), .val (.int v9_7), .val (.ref b190), .val (.ref bs243), .val (.ref b252), .val (.int (1 : Int32)), .val (.int (1 : Int32))] [(.int (1 : Int32))]))
          refine own_by (fun _ k => XS.goto X318.here hx rfl (pc0 := 250) (pc' := 254) rfl (hb hby at_250) (by decide) (by decide) k) ?_
          show own_Go _ _ _ _ (T318.setTop (mkF m 254 #[.val (.int p1), .val (.int p2), .val (.int p3), .val (.int (0 : Int32)), .val (.int v4_2), .val (.int v5_3), .val (.ref bo4), .val (.int v7_5), .val (.int v8_6), .val (.int v9_7), .val (.ref b190), .val (.ref bs243), .val (.ref b252), .val (.int (1 : Int32)), .val (.int (1 : Int32))] [(.int (1 : Int32))]))
          exact own_retWN X318 hx Bd.notSynchronized e318 Bd.returns hS296 ks307 (by simp) (hb hby at_254) (⟨rfl, N318⟩) (by decide) (by decide)
        · --
          refine own_by (fun _ k => XS.icmpYes X4.here hx rfl (pc0 := 109) (pc' := 137) rfl (hb hby at_109) rfl (feq hc189).2 (by decide) (by decide) k) ?_
          show own_Go _ _ _ _ (T4.setTop (mkF m 137 #[.val (.int p1), .val (.int p2), .val (.int p3), .val (.int (0 : Int32)), .val (.int v4_2), .val (.int v5_3), .val (.ref bo4), .val (.int v7_5), .val (.int v8_6), .val (.int v9_7), .unset, .unset, .unset, .unset, .unset] []))
          obtain ⟨T319, h319, X319, e319, E319, A319, D319, -, st319⟩ := newO X4 hx hZ hown (hw _ (List.mem_of_getElem? (i := 7) rfl)) (hw _ (List.mem_of_getElem? (i := 8) rfl)) (hw _ (List.mem_of_getElem? (i := 9) rfl)) e4 (g := (mkF m 137 #[.val (.int p1), .val (.int p2), .val (.int p3), .val (.int (0 : Int32)), .val (.int v4_2), .val (.int v5_3), .val (.ref bo4), .val (.int v7_5), .val (.int v8_6), .val (.int v9_7), .unset, .unset, .unset, .unset, .unset] [])) rfl (hb hby at_137) (by decide) (by decide)
          refine own_by st319 ?_
          show own_Go _ _ _ _ (T319.setTop (mkF m 140 #[.val (.int p1), .val (.int p2), .val (.int p3), .val (.int (0 : Int32)), .val (.int v4_2), .val (.int v5_3), .val (.ref bo4), .val (.int v7_5), .val (.int v8_6), .val (.int v9_7), .unset, .unset, .unset, .unset, .unset] [.ref h0.size]))
          obtain ⟨b319, g319⟩ : ∃ z, z = h0.size := ⟨_, rfl⟩
          rw [← g319] at A319 D319
          refine own_gen g319.symm (fun z_ => T319.setTop (mkF m 140 #[.val (.int p1), .val (.int p2), .val (.int p3), .val (.int (0 : Int32)), .val (.int v4_2), .val (.int v5_3), .val (.ref bo4), .val (.int v7_5), .val (.int v8_6), .val (.int v9_7), .unset, .unset, .unset, .unset, .unset] [.ref z_])) ?_
          have ge319 : n0 ≤ b319 := Nat.le_trans Z0 (Nat.le_of_eq g319.symm)
          have nw319 : h0.size ≤ b319 := Nat.le_trans (Keep.refl h0 []).1 (Nat.le_of_eq g319.symm)
          have f320 := PS_ONCE.ext E319
          have f321 := PS_AT_MOST_ONCE.ext E319
          have f322 := PS_AT_LEAST_ONCE.ext E319
          have f323 := PS_ANY_NUMBER.ext E319
          have f324 := PS.ext E319
          have f325 := (Keep.refl h0 []).ext E319
          have Z319 := Nat.le_trans Z0 E319.1
          have ks319 := Nat.le_trans k0 E319.1
          have f326 : Fld Z h319 b319 "java/lang/String" "value" "[B" .null := D319 (Or.inr (hw _ (List.mem_of_getElem? (i := 23) rfl))) (ty := (.array .byte)) (by decide)
          have f327 : Fld Z h319 b319 "java/lang/String" "coder" "B" (.int (0 : Int32)) := D319 (Or.inr (hw _ (List.mem_of_getElem? (i := 24) rfl))) (ty := .byte) (by decide)
          show own_Go _ _ _ _ (T319.setTop (mkF m 140 #[.val (.int p1), .val (.int p2), .val (.int p3), .val (.int (0 : Int32)), .val (.int v4_2), .val (.int v5_3), .val (.ref bo4), .val (.int v7_5), .val (.int v8_6), .val (.int v9_7), .unset, .unset, .unset, .unset, .unset] [(.ref b319)]))
          refine own_by (fun _ k => XS.dup X319.here hx rfl (hb hby at_140) rfl rfl k) ?_
          refine own_by (fun _ k => XS.iconst X319.here hx rfl (hb hby at_141) k) ?_
          show own_Go _ _ _ _ (T319.setTop (mkF m 142 #[.val (.int p1), .val (.int p2), .val (.int p3), .val (.int (0 : Int32)), .val (.int v4_2), .val (.int v5_3), .val (.ref bo4), .val (.int v7_5), .val (.int v8_6), .val (.int v9_7), .unset, .unset, .unset, .unset, .unset] [(.int (3 : Int32)), (.ref b319), (.ref b319)]))
          refine own_newP X319 hx hZ (hw _ (List.mem_of_getElem? (i := 10) rfl)) e319 3 (by decide) 3 (by decide) (by decide) (by decide) (by decide) (hb hby at_142) ?_
          intro T328 h328 X328 e328 E328 A328
          show own_Go _ _ _ _ (T328.setTop (mkF m 144 #[.val (.int p1), .val (.int p2), .val (.int p3), .val (.int (0 : Int32)), .val (.int v4_2), .val (.int v5_3), .val (.ref bo4), .val (.int v7_5), .val (.int v8_6), .val (.int v9_7), .unset, .unset, .unset, .unset, .unset] [.ref h319.size, (.ref b319), (.ref b319)]))
          obtain ⟨b328, g328⟩ : ∃ z, z = h319.size := ⟨_, rfl⟩
          rw [← g328] at A328
          refine own_gen g328.symm (fun z_ => T328.setTop (mkF m 144 #[.val (.int p1), .val (.int p2), .val (.int p3), .val (.int (0 : Int32)), .val (.int v4_2), .val (.int v5_3), .val (.ref bo4), .val (.int v7_5), .val (.int v8_6), .val (.int v9_7), .unset, .unset, .unset, .unset, .unset] [.ref z_, (.ref b319), (.ref b319)])) ?_
          have ne329 : b319 ≠ b328 := Nat.ne_of_lt (Nat.lt_of_lt_of_le A319.lt (Nat.le_of_eq g328.symm))
          have ge328 : n0 ≤ b328 := Nat.le_trans Z319 (Nat.le_of_eq g328.symm)
          have nw328 : h0.size ≤ b328 := Nat.le_trans f325.1 (Nat.le_of_eq g328.symm)
          have f330 := f320.ext E328
          have f331 := f321.ext E328
          have f332 := f322.ext E328
          have f333 := f323.ext E328
          have f334 := f324.ext E328
          have f335 := f325.ext E328
          have f336 := A319.ext E328
          have f337 := f326.ext E328
          have f338 := f327.ext E328
          have Z328 := Nat.le_trans Z319 E328.1
          have ks328 := Nat.le_trans ks319 E328.1
          have f339 : own_AI Z h328 b328 .char 3 (fun _ => 0) := A328
          show own_Go _ _ _ _ (T328.setTop (mkF m 144 #[.val (.int p1), .val (.int p2), .val (.int p3), .val (.int (0 : Int32)), .val (.int v4_2), .val (.int v5_3), .val (.ref bo4), .val (.int v7_5), .val (.int v8_6), .val (.int v9_7), .unset, .unset, .unset, .unset, .unset] [(.ref b328), (.ref b319), (.ref b319)]))
          refine own_by (fun _ k => XS.dup X328.here hx rfl (hb hby at_144) rfl rfl k) ?_
          refine own_by (fun _ k => XS.iconst X328.here hx rfl (hb hby at_145) k) ?_
          refine own_by (fun _ k => XS.iload X328.here hx rfl (hb hby at_146) rfl k) ?_
          show own_Go _ _ _ _ (T328.setTop (mkF m 148 #[.val (.int p1), .val (.int p2), .val (.int p3), .val (.int (0 : Int32)), .val (.int v4_2), .val (.int v5_3), .val (.ref bo4), .val (.int v7_5), .val (.int v8_6), .val (.int v9_7), .unset, .unset, .unset, .unset, .unset] [(.int v7_5), (.int (0 : Int32)), (.ref b328), (.ref b328), (.ref b319), (.ref b319)]))
          refine own_cas X328 hx hZ e328 f339 0 (by decide) (by decide) (hb hby at_148) ?_
          intro T340 h340 X340 e340 W340 A340
          have f341 := f330.wr W340
          have f342 := f331.wr W340
          have f343 := f332.wr W340
          have f344 := f333.wr W340
          have f345 := f334.wr W340
          have f346 := f335.wr W340 (Or.inr nw328)
          have f347 := f336.wr W340
          have f348 := f337.other W340 (Or.inl ne329)
          have f349 := f338.other W340 (Or.inl ne329)
          have N340 := Fr.snoc X340 N4 ge328
          have Z340 := own_size_wr W340 Z328
          have ks340 := own_size_wr W340 ks328
          obtain ⟨fn340, hfn340⟩ : ∃ gf_ : Nat → Int32, gf_ = own_upd (fun _ => 0) 0 (nar .char v7_5) := ⟨_, rfl⟩
          rw [← hfn340] at A340
          show own_Go _ _ _ _ (T340.setTop (mkF m 149 #[.val (.int p1), .val (.int p2), .val (.int p3), .val (.int (0 : Int32)), .val (.int v4_2), .val (.int v5_3), .val (.ref bo4), .val (.int v7_5), .val (.int v8_6), .val (.int v9_7), .unset, .unset, .unset, .unset, .unset] [(.ref b328), (.ref b319), (.ref b319)]))
          refine own_by (fun _ k => XS.dup X340.here hx rfl (hb hby at_149) rfl rfl k) ?_
          refine own_by (fun _ k => XS.iconst X340.here hx rfl (hb hby at_150) k) ?_
          refine own_by (fun _ k => XS.iload X340.here hx rfl (hb hby at_151) rfl k) ?_
          show own_Go _ _ _ _ (T340.setTop (mkF m 153 #[.val (.int p1), .val (.int p2), .val (.int p3), .val (.int (0 : Int32)), .val (.int v4_2), .val (.int v5_3), .val (.ref bo4), .val (.int v7_5), .val (.int v8_6), .val (.int v9_7), .unset, .unset, .unset, .unset, .unset] [(.int v8_6), (.int (1 : Int32)), (.ref b328), (.ref b328), (.ref b319), (.ref b319)]))
          refine own_cas X340 hx hZ e340 A340 1 (by decide) (by decide) (hb hby at_153) ?_
          intro T350 h350 X350 e350 W350 A350
          have f351 := f341.wr W350
          have f352 := f342.wr W350
          have f353 := f343.wr W350
          have f354 := f344.wr W350
          have f355 := f345.wr W350
          have f356 := f346.wr W350 (Or.inr nw328)
          have f357 := f347.wr W350
          have f358 := f348.other W350 (Or.inl ne329)
          have f359 := f349.other W350 (Or.inl ne329)
          have N350 := Fr.snoc X350 N340 ge328
          have Z350 := own_size_wr W350 Z340
          have ks350 := own_size_wr W350 ks340
          obtain ⟨fn350, hfn350⟩ : ∃ gf_ : Nat → Int32, gf_ = own_upd fn340 1 (nar .char v8_6) := ⟨_, rfl⟩
          rw [← hfn350] at A350
          show own_Go _ _ _ _ (T350.setTop (mkF m 154 #[.val (.int p1), .val (.int p2), .val (.int p3), .val (.int (0 : Int32)), .val (.int v4_2), .val (.int v5_3), .val (.ref bo4), .val (.int v7_5), .val (.int v8_6), .val (.int v9_7), .unset, .unset, .unset, .unset, .unset] [(.ref b328), (.ref b319), (.ref b319)]))
          refine own_by (fun _ k => XS.dup X350.here hx rfl (hb hby at_154) rfl rfl k) ?_
          refine own_by (fun _ k => XS.iconst X350.here hx rfl (hb hby at_155) k) ?_
          refine own_by (fun _ k => XS.iload X350.here hx rfl (hb hby at_156) rfl k) ?_
          show own_Go _ _ _ _ (T350.setTop (mkF m 158 #[.val (.int p1), .val (.int p2), .val (.int p3), .val (.int (0 : Int32)), .val (.int v4_2), .val (.int v5_3), .val (.ref bo4), .val (.int v7_5), .val (.int v8_6), .val (.int v9_7), .unset, .unset, .unset, .unset, .unset] [(.int v9_7), (.int (2 : Int32)), (.ref b328), (.ref b328), (.ref b319), (.ref b319)]))
          refine own_cas X350 hx hZ e350 A350 2 (by decide) (by decide) (hb hby at_158) ?_
          intro T360 h360 X360 e360 W360 A360
          have f361 := f351.wr W360
          have f362 := f352.wr W360
          have f363 := f353.wr W360
          have f364 := f354.wr W360
          have f365 := f355.wr W360
          have f366 := f356.wr W360 (Or.inr nw328)
          have f367 := f357.wr W360
          have f368 := f358.other W360 (Or.inl ne329)
          have f369 := f359.other W360 (Or.inl ne329)
          have N360 := Fr.snoc X360 N350 ge328
          have Z360 := own_size_wr W360 Z350
          have ks360 := own_size_wr W360 ks350
          obtain ⟨fn360, hfn360⟩ : ∃ gf_ : Nat → Int32, gf_ = own_upd fn350 2 (nar .char v9_7) := ⟨_, rfl⟩
          rw [← hfn360] at A360
          show own_Go _ _ _ _ (T360.setTop (mkF m 159 #[.val (.int p1), .val (.int p2), .val (.int p3), .val (.int (0 : Int32)), .val (.int v4_2), .val (.int v5_3), .val (.ref bo4), .val (.int v7_5), .val (.int v8_6), .val (.int v9_7), .unset, .unset, .unset, .unset, .unset] [(.ref b328), (.ref b319), (.ref b319)]))
          refine own_callI X360 hx hZ hown rfl (hw _ (List.mem_of_getElem? (i := 11) rfl)) (hw _ (List.mem_of_getElem? (i := 12) rfl)) (hw _ (List.mem_of_getElem? (i := 9) rfl)) (hw _ (List.mem_of_getElem? (i := 13) rfl)) (by decide) (rm2_3 l Z a0 hw [] b319 b328 cs fn360 h360 n0 Z360 f367 f368 f369 ge319 f365 Pcs A360 ne329 (by rw [show fn360 0 = (nar .char v7_5) from by simp [own_upd, hfn360, hfn350, hfn340]]; exact own_chn _ _ hv7_5) (by rw [show fn360 1 = (nar .char v8_6) from by simp [own_upd, hfn360, hfn350]]; exact own_chn _ _ hv8_6) (by rw [show fn360 2 = (nar .char v9_7) from by simp [own_upd, hfn360]]; exact own_chn _ _ hv9_7)) e360 (by rw [hml]; rfl) b319 [(.ref b328)] [(.ref b319)] rfl (lenOf own_pd2 rfl) rfl 1 (Nat.le_of_eq rfl) (by decide) (by decide) (Nat.le_of_ble_eq_true rfl) (Nat.le_of_ble_eq_true rfl) (hb hby at_159) ?_
          intro T370 Lc370 v370 X370 hQ370
          obtain ⟨h370, e370⟩ : ∃ h, T370.heap = h := ⟨_, rfl⟩
          rw [e370] at hQ370
          obtain ⟨rfl, N370q, K370⟩ := hQ370
          have N370 := Fr.app N360 N370q
          have f371 := own_sta_keep f361 K370 (nsS f367.nostat ns0)
          have f372 := own_sta_keep f362 K370 (nsS f367.nostat ns0)
          have f373 := own_sta_keep f363 K370 (nsS f367.nostat ns0)
          have f374 := own_sta_keep f364 K370 (nsS f367.nostat ns0)
          have f375 := own_sta_keep f365 K370 (nsS f367.nostat ns0)
          have f376 := f366.trans K370 (allS (P := fun x => x ∈ [] ∨ h0.size ≤ x) (Or.inr nw319) all0)
          have f377 := f367.keep K370
          have f380 := A360.keep K370 (ninS (Ne.symm ne329) nin0)
          have Z370 := Nat.le_trans Z360 K370.1
          have ks370 := Nat.le_trans ks360 K370.1
          show own_Go _ _ _ _ (T370.setTop (mkF m 162 #[.val (.int p1), .val (.int p2), .val (.int p3), .val (.int (0 : Int32)), .val (.int v4_2), .val (.int v5_3), .val (.ref bo4), .val (.int v7_5), .val (.int v8_6), .val (.int v9_7), .unset, .unset, .unset, .unset, .unset] [(.ref b319)]))
          refine own_by (fun _ k => XS.astore X370.here hx rfl (hb hby at_162) rfl rfl (l' := #[.val (.int p1), .val (.int p2), .val (.int p3), .val (.int (0 : Int32)), .val (.int v4_2), .val (.int v5_3), .val (.ref bo4), .val (.int v7_5), .val (.int v8_6), .val (.int v9_7), .val (.ref b319), .unset, .unset, .unset, .unset]) rfl k) ?_
          refine own_by (fun _ k => XS.iloadN X370.here hx rfl (hb hby at_164) rfl k) ?_
          refine own_by (fun _ k => XS.bipush X370.here hx rfl (hb hby at_165) k) ?_
          show own_Go _ _ _ _ (T370.setTop (mkF m 167 #[.val (.int p1), .val (.int p2), .val (.int p3), .val (.int (0 : Int32)), .val (.int v4_2), .val (.int v5_3), .val (.ref bo4), .val (.int v7_5), .val (.int v8_6), .val (.int v9_7), .val (.ref b319), .unset, .unset, .unset, .unset] [(.int (8 : Int32)), (.int p3)]))
          refine own_by (fun _ k => XS.iushr X370.here hx rfl (hb hby at_167) rfl k) ?_
          refine own_by (fun _ k => XS.sipush X370.here hx rfl (hb hby at_168) k) ?_
          show own_Go _ _ _ _ (T370.setTop (mkF m 171 #[.val (.int p1), .val (.int p2), .val (.int p3), .val (.int (0 : Int32)), .val (.int v4_2), .val (.int v5_3), .val (.ref bo4), .val (.int v7_5), .val (.int v8_6), .val (.int v9_7), .val (.ref b319), .unset, .unset, .unset, .unset] [(.int (255 : Int32)), (.int ((p3.toUInt32 >>> ((8 : Int32) &&& 31).toUInt32).toInt32))]))
          refine own_by (fun _ k => XS.iand X370.here hx rfl (hb hby at_171) rfl k) ?_
          show own_Go _ _ _ _ (T370.setTop (mkF m 172 #[.val (.int p1), .val (.int p2), .val (.int p3), .val (.int (0 : Int32)), .val (.int v4_2), .val (.int v5_3), .val (.ref bo4), .val (.int v7_5), .val (.int v8_6), .val (.int v9_7), .val (.ref b319), .unset, .unset, .unset, .unset] [(.int (((p3.toUInt32 >>> ((8 : Int32) &&& 31).toUInt32).toInt32) &&& (255 : Int32)))]))
          refine own_by (fun _ k => XS.i2c X370.here hx rfl (hb hby at_172) rfl k) ?_
          show own_Go _ _ _ _ (T370.setTop (mkF m 173 #[.val (.int p1), .val (.int p2), .val (.int p3), .val (.int (0 : Int32)), .val (.int v4_2), .val (.int v5_3), .val (.ref bo4), .val (.int v7_5), .val (.int v8_6), .val (.int v9_7), .val (.ref b319), .unset, .unset, .unset, .unset] [(.int ((((p3.toUInt32 >>> ((8 : Int32) &&& 31).toUInt32).toInt32) &&& (255 : Int32)).toUInt32.toUInt16.toUInt32.toInt32))]))
          obtain ⟨g381, hg381⟩ : ∃ z_ : Int32, ((((p3.toUInt32 >>> ((8 : Int32) &&& 31).toUInt32).toInt32) &&& (255 : Int32)).toUInt32.toUInt16.toUInt32.toInt32) = z_ := ⟨_, rfl⟩
          refine own_gen hg381 (fun z_ => T370.setTop (mkF m 173 #[.val (.int p1), .val (.int p2), .val (.int p3), .val (.int (0 : Int32)), .val (.int v4_2), .val (.int v5_3), .val (.ref bo4), .val (.int v7_5), .val (.int v8_6), .val (.int v9_7), .val (.ref b319), .unset, .unset, .unset, .unset] [(.int z_)])) ?_
          refine own_callS X370 hx hZ hown (hw _ (List.mem_of_getElem? (i := 29) rfl)) (hw _ (List.mem_of_getElem? (i := 30) rfl)) (hw _ (List.mem_of_getElem? (i := 9) rfl)) (hw _ (List.mem_of_getElem? (i := 31) rfl)) (by decide) (rm5 l Z a0 hw [] g381 cs h370 n0 Z370 f375 Pcs (own_ch _ _ hg381)) e370 (by rw [hml]; rfl) [(.int g381)] [] rfl (lenOf own_pd5 rfl) rfl 0 (Nat.le_of_eq rfl) (by decide) (by decide) (Nat.le_of_ble_eq_true rfl) (Nat.le_of_ble_eq_true rfl) (hb hby at_173) ?_
          intro T382 Lc382 v382 X382 hQ382
          obtain ⟨h382, e382⟩ : ∃ h, T382.heap = h := ⟨_, rfl⟩
          rw [e382] at hQ382
          obtain ⟨bs382, rfl, N382q, K382⟩ := hQ382
          have N382 := Fr.app N370 N382q
          have f383 := own_sta_keep f371 K382 ns0
          have f384 := own_sta_keep f372 K382 ns0
          have f385 := own_sta_keep f373 K382 ns0
          have f386 := own_sta_keep f374 K382 ns0
          have f387 := own_sta_keep f375 K382 ns0
          have f388 := f376.trans K382 all0
          have f389 := f377.keep K382
          have f390 := f380.keep K382 nin0
          have Z382 := Nat.le_trans Z370 K382.1
          have ks382 := Nat.le_trans ks370 K382.1
          show own_Go _ _ _ _ (T382.setTop (mkF m 176 #[.val (.int p1), .val (.int p2), .val (.int p3), .val (.int (0 : Int32)), .val (.int v4_2), .val (.int v5_3), .val (.ref bo4), .val (.int v7_5), .val (.int v8_6), .val (.int v9_7), .val (.ref b319), .unset, .unset, .unset, .unset] [(.ref bs382)]))
          refine own_by (fun _ k => XS.astore X382.here hx rfl (hb hby at_176) rfl rfl (l' := #[.val (.int p1), .val (.int p2), .val (.int p3), .val (.int (0 : Int32)), .val (.int v4_2), .val (.int v5_3), .val (.ref bo4), .val (.int v7_5), .val (.int v8_6), .val (.int v9_7), .val (.ref b319), .val (.ref bs382), .unset, .unset, .unset]) rfl k) ?_
          show own_Go _ _ _ _ (T382.setTop (mkF m 178 #[.val (.int p1), .val (.int p2), .val (.int p3), .val (.int (0 : Int32)), .val (.int v4_2), .val (.int v5_3), .val (.ref bo4), .val (.int v7_5), .val (.int v8_6), .val (.int v9_7), .val (.ref b319), .val (.ref bs382), .unset, .unset, .unset] []))
          obtain ⟨T391, h391, X391, e391, E391, A391, D391, -, st391⟩ := newO X382 hx hZ hown (hw _ (List.mem_of_getElem? (i := 44) rfl)) (hw _ (List.mem_of_getElem? (i := 45) rfl)) (hw _ (List.mem_of_getElem? (i := 46) rfl)) e382 (g := (mkF m 178 #[.val (.int p1), .val (.int p2), .val (.int p3), .val (.int (0 : Int32)), .val (.int v4_2), .val (.int v5_3), .val (.ref bo4), .val (.int v7_5), .val (.int v8_6), .val (.int v9_7), .val (.ref b319), .val (.ref bs382), .unset, .unset, .unset] [])) rfl (hb hby at_178) (by decide) (by decide)
          refine own_by st391 ?_
          show own_Go _ _ _ _ (T391.setTop (mkF m 181 #[.val (.int p1), .val (.int p2), .val (.int p3), .val (.int (0 : Int32)), .val (.int v4_2), .val (.int v5_3), .val (.ref bo4), .val (.int v7_5), .val (.int v8_6), .val (.int v9_7), .val (.ref b319), .val (.ref bs382), .unset, .unset, .unset] [.ref h382.size]))
          obtain ⟨b391, g391⟩ : ∃ z, z = h382.size := ⟨_, rfl⟩
          rw [← g391] at A391 D391
          refine own_gen g391.symm (fun z_ => T391.setTop (mkF m 181 #[.val (.int p1), .val (.int p2), .val (.int p3), .val (.int (0 : Int32)), .val (.int v4_2), .val (.int v5_3), .val (.ref bo4), .val (.int v7_5), .val (.int v8_6), .val (.int v9_7), .val (.ref b319), .val (.ref bs382), .unset, .unset, .unset] [.ref z_])) ?_
          have ne392 : b319 ≠ b391 := Nat.ne_of_lt (Nat.lt_of_lt_of_le f389.lt (Nat.le_of_eq g391.symm))
          have ne393 : b328 ≠ b391 := Nat.ne_of_lt (Nat.lt_of_lt_of_le f390.lt (Nat.le_of_eq g391.symm))
          have ge391 : n0 ≤ b391 := Nat.le_trans Z382 (Nat.le_of_eq g391.symm)
          have nw391 : h0.size ≤ b391 := Nat.le_trans f388.1 (Nat.le_of_eq g391.symm)
          have f394 := f383.ext E391
          have f395 := f384.ext E391
          have f396 := f385.ext E391
          have f397 := f386.ext E391
          have f398 := f387.ext E391
          have f399 := f388.ext E391
          have f400 := f389.ext E391
          have f401 := f390.ext E391
          have Z391 := Nat.le_trans Z382 E391.1
          have ks391 := Nat.le_trans ks382 E391.1
          have f402 : Fld Z h391 b391 "com/example/time_for_trials/timefortrials/cli/Usage$Option" "name" "Ljava/lang/String;" .null := D391 (Or.inr (hw _ (List.mem_of_getElem? (i := 58) rfl))) (ty := (.object "java/lang/String")) (by decide)
          have f403 : Fld Z h391 b391 "com/example/time_for_trials/timefortrials/cli/Usage$Option" "value" "Ljava/lang/String;" .null := D391 (Or.inr (hw _ (List.mem_of_getElem? (i := 60) rfl))) (ty := (.object "java/lang/String")) (by decide)
          have f404 : Fld Z h391 b391 "com/example/time_for_trials/timefortrials/cli/Usage$Option" "occurs" "Lcom/example/time_for_trials/timefortrials/cli/Usage$Occurs;" .null := D391 (Or.inr (hw _ (List.mem_of_getElem? (i := 62) rfl))) (ty := (.object "com/example/time_for_trials/timefortrials/cli/Usage$Occurs")) (by decide)
          have f405 : Fld Z h391 b391 "com/example/time_for_trials/timefortrials/cli/Usage$Option" "description" "Ljava/lang/String;" .null := D391 (Or.inr (hw _ (List.mem_of_getElem? (i := 64) rfl))) (ty := (.object "java/lang/String")) (by decide)
          show own_Go _ _ _ _ (T391.setTop (mkF m 181 #[.val (.int p1), .val (.int p2), .val (.int p3), .val (.int (0 : Int32)), .val (.int v4_2), .val (.int v5_3), .val (.ref bo4), .val (.int v7_5), .val (.int v8_6), .val (.int v9_7), .val (.ref b319), .val (.ref bs382), .unset, .unset, .unset] [(.ref b391)]))
          refine own_by (fun _ k => XS.dup X391.here hx rfl (hb hby at_181) rfl rfl k) ?_
          refine own_by (fun _ k => XS.aload X391.here hx rfl (hb hby at_182) rfl rfl k) ?_
          refine own_by (fun _ k => XS.aload X391.here hx rfl (hb hby at_184) rfl rfl k) ?_
          show own_Go _ _ _ _ (T391.setTop (mkF m 186 #[.val (.int p1), .val (.int p2), .val (.int p3), .val (.int (0 : Int32)), .val (.int v4_2), .val (.int v5_3), .val (.ref bo4), .val (.int v7_5), .val (.int v8_6), .val (.int v9_7), .val (.ref b319), .val (.ref bs382), .unset, .unset, .unset] [(.ref b319), (.ref bs382), (.ref b391), (.ref b391)]))
          refine own_by (fun _ k => XS.aload X391.here hx rfl (hb hby at_186) rfl rfl k) ?_
          show own_Go _ _ _ _ (T391.setTop (mkF m 188 #[.val (.int p1), .val (.int p2), .val (.int p3), .val (.int (0 : Int32)), .val (.int v4_2), .val (.int v5_3), .val (.ref bo4), .val (.int v7_5), .val (.int v8_6), .val (.int v9_7), .val (.ref b319), .val (.ref bs382), .unset, .unset, .unset] [(.ref bo4), (.ref b319), (.ref bs382), (.ref b391), (.ref b391)]))
          refine own_ldcS X391 hx hZ hown (hw _ (List.mem_of_getElem? (i := 47) rfl)) (own_wS hw) e391 hS0 ks391 (hb hby at_188) 4 (by decide) (by decide) (by decide) (by decide) ?_
          intro b406 T406 h406 kk406 X406 e406 E406 hS406 ks406 hZ hown
          have f407 := f394.ext E406
          have f408 := f395.ext E406
          have f409 := f396.ext E406
          have f410 := f397.ext E406
          have f411 := f398.ext E406
          have f412 := f399.ext E406
          have f413 := f400.ext E406
          have f414 := f401.ext E406
          have f415 := A391.ext E406
          have f416 := f402.ext E406
          have f417 := f403.ext E406
          have f418 := f404.ext E406
          have f419 := f405.ext E406
          have Z406 := Nat.le_trans Z391 E406.1
          show own_Go _ _ _ _ (T406.setTop (mkF m 190 #[.val (.int p1), .val (.int p2), .val (.int p3), .val (.int (0 : Int32)), .val (.int v4_2), .val (.int v5_3), .val (.ref bo4), .val (.int v7_5), .val (.int v8_6), .val (.int v9_7), .val (.ref b319), .val (.ref bs382), .unset, .unset, .unset] [(.ref b406), (.ref bo4), (.ref b319), (.ref bs382), (.ref b391), (.ref b391)]))
          refine own_callI X406 hx hZ hown rfl (hw _ (List.mem_of_getElem? (i := 48) rfl)) (hw _ (List.mem_of_getElem? (i := 49) rfl)) (hw _ (List.mem_of_getElem? (i := 46) rfl)) (hw _ (List.mem_of_getElem? (i := 50) rfl)) (by decide) (rm9_v l Z a0 hw [] b391 bs382 b319 bo4 b406 h406 n0 Z406 f415 f416 f417 f418 f419 ge391) e406 (by rw [hml]; rfl) b391 [(.ref bs382), (.ref b319), (.ref bo4), (.ref b406)] [(.ref b391)] rfl (lenOf own_pd9 rfl) rfl 1 (Nat.le_of_eq rfl) (by decide) (by decide) (Nat.le_of_ble_eq_true rfl) (Nat.le_of_ble_eq_true rfl) (hb hby at_190) ?_
          intro T420 Lc420 v420 X420 hQ420
          obtain ⟨h420, e420⟩ : ∃ h, T420.heap = h := ⟨_, rfl⟩
          rw [e420] at hQ420
          obtain ⟨rfl, N420q, K420, FO420⟩ := hQ420
          have N420 := Fr.app N382 N420q
          have f421 := own_sta_keep f407 K420 (nsS f415.nostat ns0)
          have f422 := own_sta_keep f408 K420 (nsS f415.nostat ns0)
          have f423 := own_sta_keep f409 K420 (nsS f415.nostat ns0)
          have f424 := own_sta_keep f410 K420 (nsS f415.nostat ns0)
          have f425 := own_sta_keep f411 K420 (nsS f415.nostat ns0)
          have f426 := f412.trans K420 (allS (P := fun x => x ∈ [] ∨ h0.size ≤ x) (Or.inr nw391) all0)
          have f427 := f413.keep K420
          have f428 := f414.keep K420 (ninS ne393 nin0)
          have f429 := f415.keep K420
          have Z420 := Nat.le_trans Z406 K420.1
          have ks420 := Nat.le_trans ks406 K420.1
          show own_Go _ _ _ _ (T420.setTop (mkF m 193 #[.val (.int p1), .val (.int p2), .val (.int p3), .val (.int (0 : Int32)), .val (.int v4_2), .val (.int v5_3), .val (.ref bo4), .val (.int v7_5), .val (.int v8_6), .val (.int v9_7), .val (.ref b319), .val (.ref bs382), .unset, .unset, .unset] [(.ref b391)]))
          refine own_by (fun _ k => XS.astore X420.here hx rfl (hb hby at_193) rfl rfl (l' := #[.val (.int p1), .val (.int p2), .val (.int p3), .val (.int (0 : Int32)), .val (.int v4_2), .val (.int v5_3), .val (.ref bo4), .val (.int v7_5), .val (.int v8_6), .val (.int v9_7), .val (.ref b319), .val (.ref bs382), .val (.ref b391), .unset, .unset]) rfl k) ?_
          refine own_by (fun _ k => XS.aload X420.here hx rfl (hb hby at_195) rfl rfl k) ?_
          show own_Go _ _ _ _ (T420.setTop (mkF m 197 #[.val (.int p1), .val (.int p2), .val (.int p3), .val (.int (0 : Int32)), .val (.int v4_2), .val (.int v5_3), .val (.ref bo4), .val (.int v7_5), .val (.int v8_6), .val (.int v9_7), .val (.ref b319), .val (.ref bs382), .val (.ref b391), .unset, .unset] [(.ref b391)]))
          refine own_callV X420 hx hZ hown (hw _ (List.mem_of_getElem? (i := 65) rfl)) (hw _ (List.mem_of_getElem? (i := 66) rfl)) (notFace_of_selects (args := #[]) (mvT hZ (hw _ (List.mem_of_getElem? (i := 68) rfl)))) (hw _ (List.mem_of_getElem? (i := 68) rfl)) (hw _ (List.mem_of_getElem? (i := 67) rfl)) (hw _ (List.mem_of_getElem? (i := 46) rfl)) (hw _ (List.mem_of_getElem? (i := 69) rfl)) (by decide) (rm11_v l Z a0 hw [] b391 b319 h420 n0 Z420 FO420) e420 b391 f429 (by rw [hml]; rfl) [] [] rfl (lenOf own_pd10 rfl) rfl 0 (Nat.le_of_eq rfl) (by decide) (by decide) (Nat.le_of_ble_eq_true rfl) (Nat.le_of_ble_eq_true rfl) (hb hby at_197) ?_
          intro T434 Lc434 v434 X434 hQ434
          obtain ⟨rfl, N434q, e434⟩ := hQ434
          have N434 := Fr.app N420 N434q
          show own_Go _ _ _ _ (T434.setTop (mkF m 200 #[.val (.int p1), .val (.int p2), .val (.int p3), .val (.int (0 : Int32)), .val (.int v4_2), .val (.int v5_3), .val (.ref bo4), .val (.int v7_5), .val (.int v8_6), .val (.int v9_7), .val (.ref b319), .val (.ref bs382), .val (.ref b391), .unset, .unset] [(.int (1 : Int32))]))
          refine own_by (fun _ k => XS.iloadN X434.here hx rfl (hb hby at_200) rfl k) ?_
          show own_Go _ _ _ _ (T434.setTop (mkF m 201 #[.val (.int p1), .val (.int p2), .val (.int p3), .val (.int (0 : Int32)), .val (.int v4_2), .val (.int v5_3), .val (.ref bo4), .val (.int v7_5), .val (.int v8_6), .val (.int v9_7), .val (.ref b319), .val (.ref bs382), .val (.ref b391), .unset, .unset] [(.int (0 : Int32)), (.int (1 : Int32))]))
          refine own_by (fun _ k => XS.ifNo X434.here hx rfl (hb hby at_201) rfl ((if0 _ _).trans (teq (by decide)).2) k) ?_
          refine own_by (fun _ k => XS.iconst X434.here hx rfl (hb hby at_204) k) ?_
          show own_Go _ _ _ _ (T434.setTop (mkF m 205 #[.val (.int p1), .val (.int p2), .val (.int p3), .val (.int (0 : Int32)), .val (.int v4_2), .val (.int v5_3), .val (.ref bo4), .val (.int v7_5), .val (.int v8_6), .val (.int v9_7), .val (.ref b319), .val (.ref bs382), .val (.ref b391), .unset, .unset] [(.int (1 : Int32)), (.int (1 : Int32))]))
          refine own_by (fun _ k => XS.goto X434.here hx rfl (pc0 := 205) (pc' := 209) rfl (hb hby at_205) (by decide) (by decide) k) ?_
          show own_Go _ _ _ _ (T434.setTop (mkF m 209 #[.val (.int p1), .val (.int p2), .val (.int p3), .val (.int (0 : Int32)), .val (.int v4_2), .val (.int v5_3), .val (.ref bo4), .val (.int v7_5), .val (.int v8_6), .val (.int v9_7), .val (.ref b319), .val (.ref bs382), .val (.ref b391), .unset, .unset] [(.int (1 : Int32)), (.int (1 : Int32))]))
          refine own_by (fun _ k => XS.icmpNo X434.here hx rfl (hb hby at_209) rfl (teq (by decide)).2 k) ?_
          refine own_by (fun _ k => XS.iconst X434.here hx rfl (hb hby at_212) k) ?_
          show own_Go _ _ _ _ (T434.setTop (mkF m 213 #[.val (.int p1), .val (.int p2), .val (.int p3), .val (.int (0 : Int32)), .val (.int v4_2), .val (.int v5_3), .val (.ref bo4), .val (.int v7_5), .val (.int v8_6), .val (.int v9_7), .val (.ref b319), .val (.ref bs382), .val (.ref b391), .unset, .unset] [(.int (1 : Int32))]))
          refine own_by (fun _ k => XS.goto X434.here hx rfl (pc0 := 213) (pc' := 217) rfl (hb hby at_213) (by decide) (by decide) k) ?_
          show own_Go _ _ _ _ (T434.setTop (mkF m 217 #[.val (.int p1), .val (.int p2), .val (.int p3), .val (.int (0 : Int32)), .val (.int v4_2), .val (.int v5_3), .val (.ref bo4), .val (.int v7_5), .val (.int v8_6), .val (.int v9_7), .val (.ref b319), .val (.ref bs382), .val (.ref b391), .unset, .unset] [(.int (1 : Int32))]))
          refine own_by (fun _ k => XS.istore X434.here hx rfl (hb hby at_217) rfl (l' := #[.val (.int p1), .val (.int p2), .val (.int p3), .val (.int (0 : Int32)), .val (.int v4_2), .val (.int v5_3), .val (.ref bo4), .val (.int v7_5), .val (.int v8_6), .val (.int v9_7), .val (.ref b319), .val (.ref bs382), .val (.ref b391), .val (.int (1 : Int32)), .unset]) rfl k) ?_
          refine own_by (fun _ k => XS.aload X434.here hx rfl (hb hby at_219) rfl rfl k) ?_
          show own_Go _ _ _ _ (T434.setTop (mkF m 221 #[.val (.int p1), .val (.int p2), .val (.int p3), .val (.int (0 : Int32)), .val (.int v4_2), .val (.int v5_3), .val (.ref bo4), .val (.int v7_5), .val (.int v8_6), .val (.int v9_7), .val (.ref b319), .val (.ref bs382), .val (.ref b391), .val (.int (1 : Int32)), .unset] [(.ref bs382)]))
          refine own_ldcS X434 hx hZ hown (hw _ (List.mem_of_getElem? (i := 47) rfl)) (own_wS hw) e434 hS406 ks420 (hb hby at_221) 4 (by decide) (by decide) (by decide) (by decide) ?_
          intro b435 T435 h435 kk435 X435 e435 E435 hS435 ks435 hZ hown
          have f436 := f421.ext E435
          have f437 := f422.ext E435
          have f438 := f423.ext E435
          have f439 := f424.ext E435
          have f440 := f425.ext E435
          have f441 := f426.ext E435
          have f442 := f427.ext E435
          have f443 := f428.ext E435
          have f444 := f429.ext E435
          have f445 := FO420.ext E435
          have Z435 := Nat.le_trans Z420 E435.1
          show own_Go _ _ _ _ (T435.setTop (mkF m 223 #[.val (.int p1), .val (.int p2), .val (.int p3), .val (.int (0 : Int32)), .val (.int v4_2), .val (.int v5_3), .val (.ref bo4), .val (.int v7_5), .val (.int v8_6), .val (.int v9_7), .val (.ref b319), .val (.ref bs382), .val (.ref b391), .val (.int (1 : Int32)), .unset] [(.ref b435), (.ref bs382)]))
          refine own_callS X435 hx hZ hown (hw _ (List.mem_of_getElem? (i := 70) rfl)) (hw _ (List.mem_of_getElem? (i := 71) rfl)) (hw _ (List.mem_of_getElem? (i := 72) rfl)) (hw _ (List.mem_of_getElem? (i := 73) rfl)) (by decide) (rm12 l Z a0 hw [] bs382 b435 b_AT_MOST_ONCE h435 n0 Z435 f437) e435 (by rw [hml]; rfl) [(.ref bs382), (.ref b435)] [] rfl (lenOf own_pd11 rfl) rfl 0 (Nat.le_of_eq rfl) (by decide) (by decide) (Nat.le_of_ble_eq_true rfl) (Nat.le_of_ble_eq_true rfl) (hb hby at_223) ?_
          intro T446 Lc446 v446 X446 hQ446
          obtain ⟨h446, e446⟩ : ∃ h, T446.heap = h := ⟨_, rfl⟩
          rw [e446] at hQ446
          obtain ⟨bf446, rfl, N446q, K446, EO446, FO446⟩ := hQ446
          have N446 := Fr.app N434 N446q
          have f447 := own_sta_keep f436 K446 ns0
          have f448 := own_sta_keep f437 K446 ns0
          have f449 := own_sta_keep f438 K446 ns0
          have f450 := own_sta_keep f439 K446 ns0
          have f451 := own_sta_keep f440 K446 ns0
          have f452 := f441.trans K446 all0
          have f453 := f442.keep K446
          have f454 := f443.keep K446 nin0
          have f455 := f444.keep K446
          have f456 := f445.keep K446 nin0
          have Z446 := Nat.le_trans Z435 K446.1
          have ks446 := Nat.le_trans ks435 K446.1
          show own_Go _ _ _ _ (T446.setTop (mkF m 226 #[.val (.int p1), .val (.int p2), .val (.int p3), .val (.int (0 : Int32)), .val (.int v4_2), .val (.int v5_3), .val (.ref bo4), .val (.int v7_5), .val (.int v8_6), .val (.int v9_7), .val (.ref b319), .val (.ref bs382), .val (.ref b391), .val (.int (1 : Int32)), .unset] [(.ref bf446)]))
          refine own_callV X446 hx hZ hown (hw _ (List.mem_of_getElem? (i := 65) rfl)) (hw _ (List.mem_of_getElem? (i := 66) rfl)) (notFace_of_selects (args := #[]) (mvT hZ (hw _ (List.mem_of_getElem? (i := 68) rfl)))) (hw _ (List.mem_of_getElem? (i := 68) rfl)) (hw _ (List.mem_of_getElem? (i := 67) rfl)) (hw _ (List.mem_of_getElem? (i := 46) rfl)) (hw _ (List.mem_of_getElem? (i := 69) rfl)) (by decide) (rm11_n l Z a0 hw [] bf446 0 h446 n0 Z446 FO446) e446 bf446 EO446 (by rw [hml]; rfl) [] [] rfl (lenOf own_pd10 rfl) rfl 0 (Nat.le_of_eq rfl) (by decide) (by decide) (Nat.le_of_ble_eq_true rfl) (Nat.le_of_ble_eq_true rfl) (hb hby at_226) ?_
          intro T457 Lc457 v457 X457 hQ457
          obtain ⟨rfl, N457q, e457⟩ := hQ457
          have N457 := Fr.app N446 N457q
          show own_Go _ _ _ _ (T457.setTop (mkF m 229 #[.val (.int p1), .val (.int p2), .val (.int p3), .val (.int (0 : Int32)), .val (.int v4_2), .val (.int v5_3), .val (.ref bo4), .val (.int v7_5), .val (.int v8_6), .val (.int v9_7), .val (.ref b319), .val (.ref bs382), .val (.ref b391), .val (.int (1 : Int32)), .unset] [(.int (0 : Int32))]))
          refine own_by (fun _ k => XS.ifNo X457.here hx rfl (hb hby at_229) rfl ((if0 _ _).trans (teq (by decide)).2) k) ?_
          refine own_by (fun _ k => XS.iconst X457.here hx rfl (hb hby at_232) k) ?_
          show own_Go _ _ _ _ (T457.setTop (mkF m 233 #[.val (.int p1), .val (.int p2), .val (.int p3), .val (.int (0 : Int32)), .val (.int v4_2), .val (.int v5_3), .val (.ref bo4), .val (.int v7_5), .val (.int v8_6), .val (.int v9_7), .val (.ref b319), .val (.ref bs382), .val (.ref b391), .val (.int (1 : Int32)), .unset] [(.int (1 : Int32))]))
          refine own_by (fun _ k => XS.goto X457.here hx rfl (pc0 := 233) (pc' := 237) rfl (hb hby at_233) (by decide) (by decide) k) ?_
          show own_Go _ _ _ _ (T457.setTop (mkF m 237 #[.val (.int p1), .val (.int p2), .val (.int p3), .val (.int (0 : Int32)), .val (.int v4_2), .val (.int v5_3), .val (.ref bo4), .val (.int v7_5), .val (.int v8_6), .val (.int v9_7), .val (.ref b319), .val (.ref bs382), .val (.ref b391), .val (.int (1 : Int32)), .unset] [(.int (1 : Int32))]))
          refine own_by (fun _ k => XS.istore X457.here hx rfl (hb hby at_237) rfl (l' := #[.val (.int p1), .val (.int p2), .val (.int p3), .val (.int (0 : Int32)), .val (.int v4_2), .val (.int v5_3), .val (.ref bo4), .val (.int v7_5), .val (.int v8_6), .val (.int v9_7), .val (.ref b319), .val (.ref bs382), .val (.ref b391), .val (.int (1 : Int32)), .val (.int (1 : Int32))]) rfl k) ?_
          refine own_by (fun _ k => XS.iload X457.here hx rfl (hb hby at_239) rfl k) ?_
          show own_Go _ _ _ _ (T457.setTop (mkF m 241 #[.val (.int p1), .val (.int p2), .val (.int p3), .val (.int (0 : Int32)), .val (.int v4_2), .val (.int v5_3), .val (.ref bo4), .val (.int v7_5), .val (.int v8_6), .val (.int v9_7), .val (.ref b319), .val (.ref bs382), .val (.ref b391), .val (.int (1 : Int32)), .val (.int (1 : Int32))] [(.int (1 : Int32))]))
          refine own_by (fun _ k => XS.ifNo X457.here hx rfl (hb hby at_241) rfl ((if0 _ _).trans (feq (by decide)).1) k) ?_
          refine own_by (fun _ k => XS.iload X457.here hx rfl (hb hby at_244) rfl k) ?_
          show own_Go _ _ _ _ (T457.setTop (mkF m 246 #[.val (.int p1), .val (.int p2), .val (.int p3), .val (.int (0 : Int32)), .val (.int v4_2), .val (.int v5_3), .val (.ref bo4), .val (.int v7_5), .val (.int v8_6), .val (.int v9_7), .val (.ref b319), .val (.ref bs382), .val (.ref b391), .val (.int (1 : Int32)), .val (.int (1 : Int32))] [(.int (1 : Int32))]))
          refine own_by (fun _ k => XS.ifNo X457.here hx rfl (hb hby at_246) rfl ((if0 _ _).trans (feq (by decide)).1) k) ?_
          refine own_by (fun _ k => XS.iconst X457.here hx rfl (hb hby at_249) k) ?_
          show own_Go _ _ _ _ (T457.setTop (mkF m 250 #[.val (.int p1), .val (.int p2), .val (.int p3), .val (.int (0 : Int32)), .val (.int v4_2), .val (.int v5_3), .val (.ref bo4), .val (.int v7_5), .val (.int v8_6), .val (.int v9_7), .val (.ref b319), .val (.ref bs382), .val (.ref b391), .val (.int (1 : Int32)), .val (.int (1 : Int32))] [(.int (1 : Int32))]))
          refine own_by (fun _ k => XS.goto X457.here hx rfl (pc0 := 250) (pc' := 254) rfl (hb hby at_250) (by decide) (by decide) k) ?_
          show own_Go _ _ _ _ (T457.setTop (mkF m 254 #[.val (.int p1), .val (.int p2), .val (.int p3), .val (.int (0 : Int32)), .val (.int v4_2), .val (.int v5_3), .val (.ref bo4), .val (.int v7_5), .val (.int v8_6), .val (.int v9_7), .val (.ref b319), .val (.ref bs382), .val (.ref b391), .val (.int (1 : Int32)), .val (.int (1 : Int32))] [(.int (1 : Int32))]))
          exact own_retWN X457 hx Bd.notSynchronized e457 Bd.returns hS435 ks446 (by simp) (hb hby at_254) (⟨rfl, N457⟩) (by decide) (by decide)
  · --
    refine own_by (fun _ k => XS.ifNo X0.here hx rfl (hb hby at_3) rfl ((if0 _ _).trans (feq hc1).1) k) ?_
    refine own_by (fun _ k => XS.iconst X0.here hx rfl (hb hby at_6) k) ?_
    show own_Go _ _ _ _ (s₁.setTop (mkF m 7 #[.val (.int p1), .val (.int p2), .val (.int p3), .unset, .unset, .unset, .unset, .unset, .unset, .unset, .unset, .unset, .unset, .unset, .unset] [(.int (1 : Int32))]))
    refine own_by (fun _ k => XS.goto X0.here hx rfl (pc0 := 7) (pc' := 11) rfl (hb hby at_7) (by decide) (by decide) k) ?_
    show own_Go _ _ _ _ (s₁.setTop (mkF m 11 #[.val (.int p1), .val (.int p2), .val (.int p3), .unset, .unset, .unset, .unset, .unset, .unset, .unset, .unset, .unset, .unset, .unset, .unset] [(.int (1 : Int32))]))
    refine own_by (fun _ k => XS.istoreN X0.here hx rfl (hb hby at_11) rfl (l' := #[.val (.int p1), .val (.int p2), .val (.int p3), .val (.int (1 : Int32)), .unset, .unset, .unset, .unset, .unset, .unset, .unset, .unset, .unset, .unset, .unset]) rfl k) ?_
    refine own_by (fun _ k => XS.iloadN X0.here hx rfl (hb hby at_12) rfl k) ?_
    refine own_by (fun _ k => XS.iconst X0.here hx rfl (hb hby at_13) k) ?_
    show own_Go _ _ _ _ (s₁.setTop (mkF m 14 #[.val (.int p1), .val (.int p2), .val (.int p3), .val (.int (1 : Int32)), .unset, .unset, .unset, .unset, .unset, .unset, .unset, .unset, .unset, .unset, .unset] [(.int (1 : Int32)), (.int p1)]))
    refine own_by (fun _ k => XS.iushr X0.here hx rfl (hb hby at_14) rfl k) ?_
    refine own_by (fun _ k => XS.iconst X0.here hx rfl (hb hby at_15) k) ?_
    show own_Go _ _ _ _ (s₁.setTop (mkF m 16 #[.val (.int p1), .val (.int p2), .val (.int p3), .val (.int (1 : Int32)), .unset, .unset, .unset, .unset, .unset, .unset, .unset, .unset, .unset, .unset, .unset] [(.int (3 : Int32)), (.int ((p1.toUInt32 >>> ((1 : Int32) &&& 31).toUInt32).toInt32))]))
    refine own_by (fun _ k => XS.iand X0.here hx rfl (hb hby at_16) rfl k) ?_
    show own_Go _ _ _ _ (s₁.setTop (mkF m 17 #[.val (.int p1), .val (.int p2), .val (.int p3), .val (.int (1 : Int32)), .unset, .unset, .unset, .unset, .unset, .unset, .unset, .unset, .unset, .unset, .unset] [(.int (((p1.toUInt32 >>> ((1 : Int32) &&& 31).toUInt32).toInt32) &&& (3 : Int32)))]))
    obtain ⟨v4_458, hv4_458⟩ : ∃ z_ : Int32, (((p1.toUInt32 >>> ((1 : Int32) &&& 31).toUInt32).toInt32) &&& (3 : Int32)) = z_ := ⟨_, rfl⟩
    refine own_gen hv4_458 (fun z_ => s₁.setTop (mkF m 17 #[.val (.int p1), .val (.int p2), .val (.int p3), .val (.int (1 : Int32)), .unset, .unset, .unset, .unset, .unset, .unset, .unset, .unset, .unset, .unset, .unset] [(.int z_)])) ?_
    refine own_by (fun _ k => XS.istore X0.here hx rfl (hb hby at_17) rfl (l' := #[.val (.int p1), .val (.int p2), .val (.int p3), .val (.int (1 : Int32)), .val (.int v4_458), .unset, .unset, .unset, .unset, .unset, .unset, .unset, .unset, .unset, .unset]) rfl k) ?_
    refine own_by (fun _ k => XS.iloadN X0.here hx rfl (hb hby at_19) rfl k) ?_
    refine own_by (fun _ k => XS.iconst X0.here hx rfl (hb hby at_20) k) ?_
    show own_Go _ _ _ _ (s₁.setTop (mkF m 21 #[.val (.int p1), .val (.int p2), .val (.int p3), .val (.int (1 : Int32)), .val (.int v4_458), .unset, .unset, .unset, .unset, .unset, .unset, .unset, .unset, .unset, .unset] [(.int (3 : Int32)), (.int p1)]))
    refine own_by (fun _ k => XS.iushr X0.here hx rfl (hb hby at_21) rfl k) ?_
    refine own_by (fun _ k => XS.iconst X0.here hx rfl (hb hby at_22) k) ?_
    show own_Go _ _ _ _ (s₁.setTop (mkF m 23 #[.val (.int p1), .val (.int p2), .val (.int p3), .val (.int (1 : Int32)), .val (.int v4_458), .unset, .unset, .unset, .unset, .unset, .unset, .unset, .unset, .unset, .unset] [(.int (3 : Int32)), (.int ((p1.toUInt32 >>> ((3 : Int32) &&& 31).toUInt32).toInt32))]))
    refine own_by (fun _ k => XS.iand X0.here hx rfl (hb hby at_23) rfl k) ?_
    show own_Go _ _ _ _ (s₁.setTop (mkF m 24 #[.val (.int p1), .val (.int p2), .val (.int p3), .val (.int (1 : Int32)), .val (.int v4_458), .unset, .unset, .unset, .unset, .unset, .unset, .unset, .unset, .unset, .unset] [(.int (((p1.toUInt32 >>> ((3 : Int32) &&& 31).toUInt32).toInt32) &&& (3 : Int32)))]))
    obtain ⟨v5_459, hv5_459⟩ : ∃ z_ : Int32, (((p1.toUInt32 >>> ((3 : Int32) &&& 31).toUInt32).toInt32) &&& (3 : Int32)) = z_ := ⟨_, rfl⟩
    refine own_gen hv5_459 (fun z_ => s₁.setTop (mkF m 24 #[.val (.int p1), .val (.int p2), .val (.int p3), .val (.int (1 : Int32)), .val (.int v4_458), .unset, .unset, .unset, .unset, .unset, .unset, .unset, .unset, .unset, .unset] [(.int z_)])) ?_
    refine own_by (fun _ k => XS.istore X0.here hx rfl (hb hby at_24) rfl (l' := #[.val (.int p1), .val (.int p2), .val (.int p3), .val (.int (1 : Int32)), .val (.int v4_458), .val (.int v5_459), .unset, .unset, .unset, .unset, .unset, .unset, .unset, .unset, .unset]) rfl k) ?_
    refine own_by (fun _ k => XS.iload X0.here hx rfl (hb hby at_26) rfl k) ?_
    show own_Go _ _ _ _ (s₁.setTop (mkF m 28 #[.val (.int p1), .val (.int p2), .val (.int p3), .val (.int (1 : Int32)), .val (.int v4_458), .val (.int v5_459), .unset, .unset, .unset, .unset, .unset, .unset, .unset, .unset, .unset] [(.int v5_459)]))
    refine own_callS X0 hx hZ hown (hw _ (List.mem_of_getElem? (i := 0) rfl)) (hw _ (List.mem_of_getElem? (i := 1) rfl)) (hw _ (List.mem_of_getElem? (i := 2) rfl)) (hw _ (List.mem_of_getElem? (i := 3) rfl)) (by decide) (rm1 l Z a0 hw [] v5_459 b_ONCE b_AT_MOST_ONCE b_AT_LEAST_ONCE b_ANY_NUMBER h0 n0 Z0 PS_ONCE PS_AT_MOST_ONCE PS_AT_LEAST_ONCE PS_ANY_NUMBER) e0 (by rw [hml]; rfl) [(.int v5_459)] [] rfl (lenOf own_pd1 rfl) rfl 0 (Nat.le_of_eq rfl) (by decide) (by decide) (Nat.le_of_ble_eq_true rfl) (Nat.le_of_ble_eq_true rfl) (hb hby at_28) ?_
    intro T460 Lc460 v460 X460 hQ460
    obtain ⟨bo460, rfl, N460q, e460⟩ := hQ460
    have N460 := Fr.app N0 N460q
    show own_Go _ _ _ _ (T460.setTop (mkF m 31 #[.val (.int p1), .val (.int p2), .val (.int p3), .val (.int (1 : Int32)), .val (.int v4_458), .val (.int v5_459), .unset, .unset, .unset, .unset, .unset, .unset, .unset, .unset, .unset] [(.ref bo460)]))
    refine own_by (fun _ k => XS.astore X460.here hx rfl (hb hby at_31) rfl rfl (l' := #[.val (.int p1), .val (.int p2), .val (.int p3), .val (.int (1 : Int32)), .val (.int v4_458), .val (.int v5_459), .val (.ref bo460), .unset, .unset, .unset, .unset, .unset, .unset, .unset, .unset]) rfl k) ?_
    refine own_by (fun _ k => XS.iloadN X460.here hx rfl (hb hby at_33) rfl k) ?_
    refine own_by (fun _ k => XS.sipush X460.here hx rfl (hb hby at_34) k) ?_
    show own_Go _ _ _ _ (T460.setTop (mkF m 37 #[.val (.int p1), .val (.int p2), .val (.int p3), .val (.int (1 : Int32)), .val (.int v4_458), .val (.int v5_459), .val (.ref bo460), .unset, .unset, .unset, .unset, .unset, .unset, .unset, .unset] [(.int (255 : Int32)), (.int p2)]))
    refine own_by (fun _ k => XS.iand X460.here hx rfl (hb hby at_37) rfl k) ?_
    show own_Go _ _ _ _ (T460.setTop (mkF m 38 #[.val (.int p1), .val (.int p2), .val (.int p3), .val (.int (1 : Int32)), .val (.int v4_458), .val (.int v5_459), .val (.ref bo460), .unset, .unset, .unset, .unset, .unset, .unset, .unset, .unset] [(.int (p2 &&& (255 : Int32)))]))
    refine own_by (fun _ k => XS.i2c X460.here hx rfl (hb hby at_38) rfl k) ?_
    show own_Go _ _ _ _ (T460.setTop (mkF m 39 #[.val (.int p1), .val (.int p2), .val (.int p3), .val (.int (1 : Int32)), .val (.int v4_458), .val (.int v5_459), .val (.ref bo460), .unset, .unset, .unset, .unset, .unset, .unset, .unset, .unset] [(.int ((p2 &&& (255 : Int32)).toUInt32.toUInt16.toUInt32.toInt32))]))
    obtain ⟨v7_461, hv7_461⟩ : ∃ z_ : Int32, ((p2 &&& (255 : Int32)).toUInt32.toUInt16.toUInt32.toInt32) = z_ := ⟨_, rfl⟩
    refine own_gen hv7_461 (fun z_ => T460.setTop (mkF m 39 #[.val (.int p1), .val (.int p2), .val (.int p3), .val (.int (1 : Int32)), .val (.int v4_458), .val (.int v5_459), .val (.ref bo460), .unset, .unset, .unset, .unset, .unset, .unset, .unset, .unset] [(.int z_)])) ?_
    refine own_by (fun _ k => XS.istore X460.here hx rfl (hb hby at_39) rfl (l' := #[.val (.int p1), .val (.int p2), .val (.int p3), .val (.int (1 : Int32)), .val (.int v4_458), .val (.int v5_459), .val (.ref bo460), .val (.int v7_461), .unset, .unset, .unset, .unset, .unset, .unset, .unset]) rfl k) ?_
    refine own_by (fun _ k => XS.iloadN X460.here hx rfl (hb hby at_41) rfl k) ?_
    refine own_by (fun _ k => XS.bipush X460.here hx rfl (hb hby at_42) k) ?_
    show own_Go _ _ _ _ (T460.setTop (mkF m 44 #[.val (.int p1), .val (.int p2), .val (.int p3), .val (.int (1 : Int32)), .val (.int v4_458), .val (.int v5_459), .val (.ref bo460), .val (.int v7_461), .unset, .unset, .unset, .unset, .unset, .unset, .unset] [(.int (8 : Int32)), (.int p2)]))
    refine own_by (fun _ k => XS.iushr X460.here hx rfl (hb hby at_44) rfl k) ?_
    refine own_by (fun _ k => XS.sipush X460.here hx rfl (hb hby at_45) k) ?_
    show own_Go _ _ _ _ (T460.setTop (mkF m 48 #[.val (.int p1), .val (.int p2), .val (.int p3), .val (.int (1 : Int32)), .val (.int v4_458), .val (.int v5_459), .val (.ref bo460), .val (.int v7_461), .unset, .unset, .unset, .unset, .unset, .unset, .unset] [(.int (255 : Int32)), (.int ((p2.toUInt32 >>> ((8 : Int32) &&& 31).toUInt32).toInt32))]))
    refine own_by (fun _ k => XS.iand X460.here hx rfl (hb hby at_48) rfl k) ?_
    show own_Go _ _ _ _ (T460.setTop (mkF m 49 #[.val (.int p1), .val (.int p2), .val (.int p3), .val (.int (1 : Int32)), .val (.int v4_458), .val (.int v5_459), .val (.ref bo460), .val (.int v7_461), .unset, .unset, .unset, .unset, .unset, .unset, .unset] [(.int (((p2.toUInt32 >>> ((8 : Int32) &&& 31).toUInt32).toInt32) &&& (255 : Int32)))]))
    refine own_by (fun _ k => XS.i2c X460.here hx rfl (hb hby at_49) rfl k) ?_
    show own_Go _ _ _ _ (T460.setTop (mkF m 50 #[.val (.int p1), .val (.int p2), .val (.int p3), .val (.int (1 : Int32)), .val (.int v4_458), .val (.int v5_459), .val (.ref bo460), .val (.int v7_461), .unset, .unset, .unset, .unset, .unset, .unset, .unset] [(.int ((((p2.toUInt32 >>> ((8 : Int32) &&& 31).toUInt32).toInt32) &&& (255 : Int32)).toUInt32.toUInt16.toUInt32.toInt32))]))
    obtain ⟨v8_462, hv8_462⟩ : ∃ z_ : Int32, ((((p2.toUInt32 >>> ((8 : Int32) &&& 31).toUInt32).toInt32) &&& (255 : Int32)).toUInt32.toUInt16.toUInt32.toInt32) = z_ := ⟨_, rfl⟩
    refine own_gen hv8_462 (fun z_ => T460.setTop (mkF m 50 #[.val (.int p1), .val (.int p2), .val (.int p3), .val (.int (1 : Int32)), .val (.int v4_458), .val (.int v5_459), .val (.ref bo460), .val (.int v7_461), .unset, .unset, .unset, .unset, .unset, .unset, .unset] [(.int z_)])) ?_
    refine own_by (fun _ k => XS.istore X460.here hx rfl (hb hby at_50) rfl (l' := #[.val (.int p1), .val (.int p2), .val (.int p3), .val (.int (1 : Int32)), .val (.int v4_458), .val (.int v5_459), .val (.ref bo460), .val (.int v7_461), .val (.int v8_462), .unset, .unset, .unset, .unset, .unset, .unset]) rfl k) ?_
    refine own_by (fun _ k => XS.iloadN X460.here hx rfl (hb hby at_52) rfl k) ?_
    refine own_by (fun _ k => XS.sipush X460.here hx rfl (hb hby at_53) k) ?_
    show own_Go _ _ _ _ (T460.setTop (mkF m 56 #[.val (.int p1), .val (.int p2), .val (.int p3), .val (.int (1 : Int32)), .val (.int v4_458), .val (.int v5_459), .val (.ref bo460), .val (.int v7_461), .val (.int v8_462), .unset, .unset, .unset, .unset, .unset, .unset] [(.int (255 : Int32)), (.int p3)]))
    refine own_by (fun _ k => XS.iand X460.here hx rfl (hb hby at_56) rfl k) ?_
    show own_Go _ _ _ _ (T460.setTop (mkF m 57 #[.val (.int p1), .val (.int p2), .val (.int p3), .val (.int (1 : Int32)), .val (.int v4_458), .val (.int v5_459), .val (.ref bo460), .val (.int v7_461), .val (.int v8_462), .unset, .unset, .unset, .unset, .unset, .unset] [(.int (p3 &&& (255 : Int32)))]))
    refine own_by (fun _ k => XS.i2c X460.here hx rfl (hb hby at_57) rfl k) ?_
    show own_Go _ _ _ _ (T460.setTop (mkF m 58 #[.val (.int p1), .val (.int p2), .val (.int p3), .val (.int (1 : Int32)), .val (.int v4_458), .val (.int v5_459), .val (.ref bo460), .val (.int v7_461), .val (.int v8_462), .unset, .unset, .unset, .unset, .unset, .unset] [(.int ((p3 &&& (255 : Int32)).toUInt32.toUInt16.toUInt32.toInt32))]))
    obtain ⟨v9_463, hv9_463⟩ : ∃ z_ : Int32, ((p3 &&& (255 : Int32)).toUInt32.toUInt16.toUInt32.toInt32) = z_ := ⟨_, rfl⟩
    refine own_gen hv9_463 (fun z_ => T460.setTop (mkF m 58 #[.val (.int p1), .val (.int p2), .val (.int p3), .val (.int (1 : Int32)), .val (.int v4_458), .val (.int v5_459), .val (.ref bo460), .val (.int v7_461), .val (.int v8_462), .unset, .unset, .unset, .unset, .unset, .unset] [(.int z_)])) ?_
    refine own_by (fun _ k => XS.istore X460.here hx rfl (hb hby at_58) rfl (l' := #[.val (.int p1), .val (.int p2), .val (.int p3), .val (.int (1 : Int32)), .val (.int v4_458), .val (.int v5_459), .val (.ref bo460), .val (.int v7_461), .val (.int v8_462), .val (.int v9_463), .unset, .unset, .unset, .unset, .unset]) rfl k) ?_
    refine own_by (fun _ k => XS.iloadN X460.here hx rfl (hb hby at_60) rfl k) ?_
    show own_Go _ _ _ _ (T460.setTop (mkF m 61 #[.val (.int p1), .val (.int p2), .val (.int p3), .val (.int (1 : Int32)), .val (.int v4_458), .val (.int v5_459), .val (.ref bo460), .val (.int v7_461), .val (.int v8_462), .val (.int v9_463), .unset, .unset, .unset, .unset, .unset] [(.int (1 : Int32))]))
    refine own_by (fun _ k => XS.ifNo X460.here hx rfl (hb hby at_61) rfl ((if0 _ _).trans (feq (by decide)).1) k) ?_
    show own_Go _ _ _ _ (T460.setTop (mkF m 64 #[.val (.int p1), .val (.int p2), .val (.int p3), .val (.int (1 : Int32)), .val (.int v4_458), .val (.int v5_459), .val (.ref bo460), .val (.int v7_461), .val (.int v8_462), .val (.int v9_463), .unset, .unset, .unset, .unset, .unset] []))
    refine own_by (fun _ k => XS.aconstNull X460.here hx rfl (hb hby at_64) k) ?_
    show own_Go _ _ _ _ (T460.setTop (mkF m 65 #[.val (.int p1), .val (.int p2), .val (.int p3), .val (.int (1 : Int32)), .val (.int v4_458), .val (.int v5_459), .val (.ref bo460), .val (.int v7_461), .val (.int v8_462), .val (.int v9_463), .unset, .unset, .unset, .unset, .unset] [.null]))
    refine own_by (fun _ k => XS.astore X460.here hx rfl (hb hby at_65) rfl rfl (l' := #[.val (.int p1), .val (.int p2), .val (.int p3), .val (.int (1 : Int32)), .val (.int v4_458), .val (.int v5_459), .val (.ref bo460), .val (.int v7_461), .val (.int v8_462), .val (.int v9_463), .val .null, .unset, .unset, .unset, .unset]) rfl k) ?_
    show own_Go _ _ _ _ (T460.setTop (mkF m 67 #[.val (.int p1), .val (.int p2), .val (.int p3), .val (.int (1 : Int32)), .val (.int v4_458), .val (.int v5_459), .val (.ref bo460), .val (.int v7_461), .val (.int v8_462), .val (.int v9_463), .val .null, .unset, .unset, .unset, .unset] []))
    refine own_by (fun _ k => XS.goto X460.here hx rfl (pc0 := 67) (pc' := 164) rfl (hb hby at_67) (by decide) (by decide) k) ?_
    refine own_by (fun _ k => XS.iloadN X460.here hx rfl (hb hby at_164) rfl k) ?_
    refine own_by (fun _ k => XS.bipush X460.here hx rfl (hb hby at_165) k) ?_
    show own_Go _ _ _ _ (T460.setTop (mkF m 167 #[.val (.int p1), .val (.int p2), .val (.int p3), .val (.int (1 : Int32)), .val (.int v4_458), .val (.int v5_459), .val (.ref bo460), .val (.int v7_461), .val (.int v8_462), .val (.int v9_463), .val .null, .unset, .unset, .unset, .unset] [(.int (8 : Int32)), (.int p3)]))
    refine own_by (fun _ k => XS.iushr X460.here hx rfl (hb hby at_167) rfl k) ?_
    refine own_by (fun _ k => XS.sipush X460.here hx rfl (hb hby at_168) k) ?_
    show own_Go _ _ _ _ (T460.setTop (mkF m 171 #[.val (.int p1), .val (.int p2), .val (.int p3), .val (.int (1 : Int32)), .val (.int v4_458), .val (.int v5_459), .val (.ref bo460), .val (.int v7_461), .val (.int v8_462), .val (.int v9_463), .val .null, .unset, .unset, .unset, .unset] [(.int (255 : Int32)), (.int ((p3.toUInt32 >>> ((8 : Int32) &&& 31).toUInt32).toInt32))]))
    refine own_by (fun _ k => XS.iand X460.here hx rfl (hb hby at_171) rfl k) ?_
    show own_Go _ _ _ _ (T460.setTop (mkF m 172 #[.val (.int p1), .val (.int p2), .val (.int p3), .val (.int (1 : Int32)), .val (.int v4_458), .val (.int v5_459), .val (.ref bo460), .val (.int v7_461), .val (.int v8_462), .val (.int v9_463), .val .null, .unset, .unset, .unset, .unset] [(.int (((p3.toUInt32 >>> ((8 : Int32) &&& 31).toUInt32).toInt32) &&& (255 : Int32)))]))
    refine own_by (fun _ k => XS.i2c X460.here hx rfl (hb hby at_172) rfl k) ?_
    show own_Go _ _ _ _ (T460.setTop (mkF m 173 #[.val (.int p1), .val (.int p2), .val (.int p3), .val (.int (1 : Int32)), .val (.int v4_458), .val (.int v5_459), .val (.ref bo460), .val (.int v7_461), .val (.int v8_462), .val (.int v9_463), .val .null, .unset, .unset, .unset, .unset] [(.int ((((p3.toUInt32 >>> ((8 : Int32) &&& 31).toUInt32).toInt32) &&& (255 : Int32)).toUInt32.toUInt16.toUInt32.toInt32))]))
    obtain ⟨g464, hg464⟩ : ∃ z_ : Int32, ((((p3.toUInt32 >>> ((8 : Int32) &&& 31).toUInt32).toInt32) &&& (255 : Int32)).toUInt32.toUInt16.toUInt32.toInt32) = z_ := ⟨_, rfl⟩
    refine own_gen hg464 (fun z_ => T460.setTop (mkF m 173 #[.val (.int p1), .val (.int p2), .val (.int p3), .val (.int (1 : Int32)), .val (.int v4_458), .val (.int v5_459), .val (.ref bo460), .val (.int v7_461), .val (.int v8_462), .val (.int v9_463), .val .null, .unset, .unset, .unset, .unset] [(.int z_)])) ?_
    refine own_callS X460 hx hZ hown (hw _ (List.mem_of_getElem? (i := 29) rfl)) (hw _ (List.mem_of_getElem? (i := 30) rfl)) (hw _ (List.mem_of_getElem? (i := 9) rfl)) (hw _ (List.mem_of_getElem? (i := 31) rfl)) (by decide) (rm5 l Z a0 hw [] g464 cs h0 n0 Z0 PS Pcs (own_ch _ _ hg464)) e460 (by rw [hml]; rfl) [(.int g464)] [] rfl (lenOf own_pd5 rfl) rfl 0 (Nat.le_of_eq rfl) (by decide) (by decide) (Nat.le_of_ble_eq_true rfl) (Nat.le_of_ble_eq_true rfl) (hb hby at_173) ?_
    intro T465 Lc465 v465 X465 hQ465
    obtain ⟨h465, e465⟩ : ∃ h, T465.heap = h := ⟨_, rfl⟩
    rw [e465] at hQ465
    obtain ⟨bs465, rfl, N465q, K465⟩ := hQ465
    have N465 := Fr.app N460 N465q
    have f466 := own_sta_keep PS_ONCE K465 ns0
    have f467 := own_sta_keep PS_AT_MOST_ONCE K465 ns0
    have f468 := own_sta_keep PS_AT_LEAST_ONCE K465 ns0
    have f469 := own_sta_keep PS_ANY_NUMBER K465 ns0
    have f470 := own_sta_keep PS K465 ns0
    have f471 := (Keep.refl h0 []).trans K465 all0
    have Z465 := Nat.le_trans Z0 K465.1
    have ks465 := Nat.le_trans k0 K465.1
    show own_Go _ _ _ _ (T465.setTop (mkF m 176 #[.val (.int p1), .val (.int p2), .val (.int p3), .val (.int (1 : Int32)), .val (.int v4_458), .val (.int v5_459), .val (.ref bo460), .val (.int v7_461), .val (.int v8_462), .val (.int v9_463), .val .null, .unset, .unset, .unset, .unset] [(.ref bs465)]))
    refine own_by (fun _ k => XS.astore X465.here hx rfl (hb hby at_176) rfl rfl (l' := #[.val (.int p1), .val (.int p2), .val (.int p3), .val (.int (1 : Int32)), .val (.int v4_458), .val (.int v5_459), .val (.ref bo460), .val (.int v7_461), .val (.int v8_462), .val (.int v9_463), .val .null, .val (.ref bs465), .unset, .unset, .unset]) rfl k) ?_
    show own_Go _ _ _ _ (T465.setTop (mkF m 178 #[.val (.int p1), .val (.int p2), .val (.int p3), .val (.int (1 : Int32)), .val (.int v4_458), .val (.int v5_459), .val (.ref bo460), .val (.int v7_461), .val (.int v8_462), .val (.int v9_463), .val .null, .val (.ref bs465), .unset, .unset, .unset] []))
    obtain ⟨T472, h472, X472, e472, E472, A472, D472, -, st472⟩ := newO X465 hx hZ hown (hw _ (List.mem_of_getElem? (i := 44) rfl)) (hw _ (List.mem_of_getElem? (i := 45) rfl)) (hw _ (List.mem_of_getElem? (i := 46) rfl)) e465 (g := (mkF m 178 #[.val (.int p1), .val (.int p2), .val (.int p3), .val (.int (1 : Int32)), .val (.int v4_458), .val (.int v5_459), .val (.ref bo460), .val (.int v7_461), .val (.int v8_462), .val (.int v9_463), .val .null, .val (.ref bs465), .unset, .unset, .unset] [])) rfl (hb hby at_178) (by decide) (by decide)
    refine own_by st472 ?_
    show own_Go _ _ _ _ (T472.setTop (mkF m 181 #[.val (.int p1), .val (.int p2), .val (.int p3), .val (.int (1 : Int32)), .val (.int v4_458), .val (.int v5_459), .val (.ref bo460), .val (.int v7_461), .val (.int v8_462), .val (.int v9_463), .val .null, .val (.ref bs465), .unset, .unset, .unset] [.ref h465.size]))
    obtain ⟨b472, g472⟩ : ∃ z, z = h465.size := ⟨_, rfl⟩
    rw [← g472] at A472 D472
    refine own_gen g472.symm (fun z_ => T472.setTop (mkF m 181 #[.val (.int p1), .val (.int p2), .val (.int p3), .val (.int (1 : Int32)), .val (.int v4_458), .val (.int v5_459), .val (.ref bo460), .val (.int v7_461), .val (.int v8_462), .val (.int v9_463), .val .null, .val (.ref bs465), .unset, .unset, .unset] [.ref z_])) ?_
    have ge472 : n0 ≤ b472 := Nat.le_trans Z465 (Nat.le_of_eq g472.symm)
    have nw472 : h0.size ≤ b472 := Nat.le_trans f471.1 (Nat.le_of_eq g472.symm)
    have f473 := f466.ext E472
    have f474 := f467.ext E472
    have f475 := f468.ext E472
    have f476 := f469.ext E472
    have f477 := f470.ext E472
    have f478 := f471.ext E472
    have Z472 := Nat.le_trans Z465 E472.1
    have ks472 := Nat.le_trans ks465 E472.1
    have f479 : Fld Z h472 b472 "com/example/time_for_trials/timefortrials/cli/Usage$Option" "name" "Ljava/lang/String;" .null := D472 (Or.inr (hw _ (List.mem_of_getElem? (i := 58) rfl))) (ty := (.object "java/lang/String")) (by decide)
    have f480 : Fld Z h472 b472 "com/example/time_for_trials/timefortrials/cli/Usage$Option" "value" "Ljava/lang/String;" .null := D472 (Or.inr (hw _ (List.mem_of_getElem? (i := 60) rfl))) (ty := (.object "java/lang/String")) (by decide)
    have f481 : Fld Z h472 b472 "com/example/time_for_trials/timefortrials/cli/Usage$Option" "occurs" "Lcom/example/time_for_trials/timefortrials/cli/Usage$Occurs;" .null := D472 (Or.inr (hw _ (List.mem_of_getElem? (i := 62) rfl))) (ty := (.object "com/example/time_for_trials/timefortrials/cli/Usage$Occurs")) (by decide)
    have f482 : Fld Z h472 b472 "com/example/time_for_trials/timefortrials/cli/Usage$Option" "description" "Ljava/lang/String;" .null := D472 (Or.inr (hw _ (List.mem_of_getElem? (i := 64) rfl))) (ty := (.object "java/lang/String")) (by decide)
    show own_Go _ _ _ _ (T472.setTop (mkF m 181 #[.val (.int p1), .val (.int p2), .val (.int p3), .val (.int (1 : Int32)), .val (.int v4_458), .val (.int v5_459), .val (.ref bo460), .val (.int v7_461), .val (.int v8_462), .val (.int v9_463), .val .null, .val (.ref bs465), .unset, .unset, .unset] [(.ref b472)]))
    refine own_by (fun _ k => XS.dup X472.here hx rfl (hb hby at_181) rfl rfl k) ?_
    refine own_by (fun _ k => XS.aload X472.here hx rfl (hb hby at_182) rfl rfl k) ?_
    refine own_by (fun _ k => XS.aload X472.here hx rfl (hb hby at_184) rfl rfl k) ?_
    show own_Go _ _ _ _ (T472.setTop (mkF m 186 #[.val (.int p1), .val (.int p2), .val (.int p3), .val (.int (1 : Int32)), .val (.int v4_458), .val (.int v5_459), .val (.ref bo460), .val (.int v7_461), .val (.int v8_462), .val (.int v9_463), .val .null, .val (.ref bs465), .unset, .unset, .unset] [.null, (.ref bs465), (.ref b472), (.ref b472)]))
    refine own_by (fun _ k => XS.aload X472.here hx rfl (hb hby at_186) rfl rfl k) ?_
    show own_Go _ _ _ _ (T472.setTop (mkF m 188 #[.val (.int p1), .val (.int p2), .val (.int p3), .val (.int (1 : Int32)), .val (.int v4_458), .val (.int v5_459), .val (.ref bo460), .val (.int v7_461), .val (.int v8_462), .val (.int v9_463), .val .null, .val (.ref bs465), .unset, .unset, .unset] [(.ref bo460), .null, (.ref bs465), (.ref b472), (.ref b472)]))
    refine own_ldcS X472 hx hZ hown (hw _ (List.mem_of_getElem? (i := 47) rfl)) (own_wS hw) e472 hS0 ks472 (hb hby at_188) 4 (by decide) (by decide) (by decide) (by decide) ?_
    intro b483 T483 h483 kk483 X483 e483 E483 hS483 ks483 hZ hown
    have f484 := f473.ext E483
    have f485 := f474.ext E483
    have f486 := f475.ext E483
    have f487 := f476.ext E483
    have f488 := f477.ext E483
    have f489 := f478.ext E483
    have f490 := A472.ext E483
    have f491 := f479.ext E483
    have f492 := f480.ext E483
    have f493 := f481.ext E483
    have f494 := f482.ext E483
    have Z483 := Nat.le_trans Z472 E483.1
    show own_Go _ _ _ _ (T483.setTop (mkF m 190 #[.val (.int p1), .val (.int p2), .val (.int p3), .val (.int (1 : Int32)), .val (.int v4_458), .val (.int v5_459), .val (.ref bo460), .val (.int v7_461), .val (.int v8_462), .val (.int v9_463), .val .null, .val (.ref bs465), .unset, .unset, .unset] [(.ref b483), (.ref bo460), .null, (.ref bs465), (.ref b472), (.ref b472)]))
    refine own_callI X483 hx hZ hown rfl (hw _ (List.mem_of_getElem? (i := 48) rfl)) (hw _ (List.mem_of_getElem? (i := 49) rfl)) (hw _ (List.mem_of_getElem? (i := 46) rfl)) (hw _ (List.mem_of_getElem? (i := 50) rfl)) (by decide) (rm9_n l Z a0 hw [] b472 bs465 bo460 b483 h483 n0 Z483 f490 f491 f492 f493 f494 ge472) e483 (by rw [hml]; rfl) b472 [(.ref bs465), .null, (.ref bo460), (.ref b483)] [(.ref b472)] rfl (lenOf own_pd9 rfl) rfl 1 (Nat.le_of_eq rfl) (by decide) (by decide) (Nat.le_of_ble_eq_true rfl) (Nat.le_of_ble_eq_true rfl) (hb hby at_190) ?_
    intro T495 Lc495 v495 X495 hQ495
    obtain ⟨h495, e495⟩ : ∃ h, T495.heap = h := ⟨_, rfl⟩
    rw [e495] at hQ495
    obtain ⟨rfl, N495q, K495, FO495⟩ := hQ495
    have N495 := Fr.app N465 N495q
    have f496 := own_sta_keep f484 K495 (nsS f490.nostat ns0)
    have f497 := own_sta_keep f485 K495 (nsS f490.nostat ns0)
    have f498 := own_sta_keep f486 K495 (nsS f490.nostat ns0)
    have f499 := own_sta_keep f487 K495 (nsS f490.nostat ns0)
    have f500 := own_sta_keep f488 K495 (nsS f490.nostat ns0)
    have f501 := f489.trans K495 (allS (P := fun x => x ∈ [] ∨ h0.size ≤ x) (Or.inr nw472) all0)
    have f502 := f490.keep K495
    have Z495 := Nat.le_trans Z483 K495.1
    have ks495 := Nat.le_trans ks483 K495.1
    show own_Go _ _ _ _ (T495.setTop (mkF m 193 #[.val (.int p1), .val (.int p2), .val (.int p3), .val (.int (1 : Int32)), .val (.int v4_458), .val (.int v5_459), .val (.ref bo460), .val (.int v7_461), .val (.int v8_462), .val (.int v9_463), .val .null, .val (.ref bs465), .unset, .unset, .unset] [(.ref b472)]))
    refine own_by (fun _ k => XS.astore X495.here hx rfl (hb hby at_193) rfl rfl (l' := #[.val (.int p1), .val (.int p2), .val (.int p3), .val (.int (1 : Int32)), .val (.int v4_458), .val (.int v5_459), .val (.ref bo460), .val (.int v7_461), .val (.int v8_462), .val (.int v9_463), .val .null, .val (.ref bs465), .val (.ref b472), .unset, .unset]) rfl k) ?_
    refine own_by (fun _ k => XS.aload X495.here hx rfl (hb hby at_195) rfl rfl k) ?_
    show own_Go _ _ _ _ (T495.setTop (mkF m 197 #[.val (.int p1), .val (.int p2), .val (.int p3), .val (.int (1 : Int32)), .val (.int v4_458), .val (.int v5_459), .val (.ref bo460), .val (.int v7_461), .val (.int v8_462), .val (.int v9_463), .val .null, .val (.ref bs465), .val (.ref b472), .unset, .unset] [(.ref b472)]))
    refine own_callV X495 hx hZ hown (hw _ (List.mem_of_getElem? (i := 65) rfl)) (hw _ (List.mem_of_getElem? (i := 66) rfl)) (notFace_of_selects (args := #[]) (mvT hZ (hw _ (List.mem_of_getElem? (i := 68) rfl)))) (hw _ (List.mem_of_getElem? (i := 68) rfl)) (hw _ (List.mem_of_getElem? (i := 67) rfl)) (hw _ (List.mem_of_getElem? (i := 46) rfl)) (hw _ (List.mem_of_getElem? (i := 69) rfl)) (by decide) (rm11_n l Z a0 hw [] b472 0 h495 n0 Z495 FO495) e495 b472 f502 (by rw [hml]; rfl) [] [] rfl (lenOf own_pd10 rfl) rfl 0 (Nat.le_of_eq rfl) (by decide) (by decide) (Nat.le_of_ble_eq_true rfl) (Nat.le_of_ble_eq_true rfl) (hb hby at_197) ?_
    intro T507 Lc507 v507 X507 hQ507
    obtain ⟨rfl, N507q, e507⟩ := hQ507
    have N507 := Fr.app N495 N507q
    show own_Go _ _ _ _ (T507.setTop (mkF m 200 #[.val (.int p1), .val (.int p2), .val (.int p3), .val (.int (1 : Int32)), .val (.int v4_458), .val (.int v5_459), .val (.ref bo460), .val (.int v7_461), .val (.int v8_462), .val (.int v9_463), .val .null, .val (.ref bs465), .val (.ref b472), .unset, .unset] [(.int (0 : Int32))]))
    refine own_by (fun _ k => XS.iloadN X507.here hx rfl (hb hby at_200) rfl k) ?_
    show own_Go _ _ _ _ (T507.setTop (mkF m 201 #[.val (.int p1), .val (.int p2), .val (.int p3), .val (.int (1 : Int32)), .val (.int v4_458), .val (.int v5_459), .val (.ref bo460), .val (.int v7_461), .val (.int v8_462), .val (.int v9_463), .val .null, .val (.ref bs465), .val (.ref b472), .unset, .unset] [(.int (1 : Int32)), (.int (0 : Int32))]))
    refine own_by (fun _ k => XS.ifYes X507.here hx rfl (pc0 := 201) (pc' := 208) rfl (hb hby at_201) rfl ((if0 _ _).trans (feq (by decide)).2) (by decide) (by decide) k) ?_
    refine own_by (fun _ k => XS.iconst X507.here hx rfl (hb hby at_208) k) ?_
    show own_Go _ _ _ _ (T507.setTop (mkF m 209 #[.val (.int p1), .val (.int p2), .val (.int p3), .val (.int (1 : Int32)), .val (.int v4_458), .val (.int v5_459), .val (.ref bo460), .val (.int v7_461), .val (.int v8_462), .val (.int v9_463), .val .null, .val (.ref bs465), .val (.ref b472), .unset, .unset] [(.int (0 : Int32)), (.int (0 : Int32))]))
    refine own_by (fun _ k => XS.icmpNo X507.here hx rfl (hb hby at_209) rfl (teq (by decide)).2 k) ?_
    refine own_by (fun _ k => XS.iconst X507.here hx rfl (hb hby at_212) k) ?_
    show own_Go _ _ _ _ (T507.setTop (mkF m 213 #[.val (.int p1), .val (.int p2), .val (.int p3), .val (.int (1 : Int32)), .val (.int v4_458), .val (.int v5_459), .val (.ref bo460), .val (.int v7_461), .val (.int v8_462), .val (.int v9_463), .val .null, .val (.ref bs465), .val (.ref b472), .unset, .unset] [(.int (1 : Int32))]))
    refine own_by (fun _ k => XS.goto X507.here hx rfl (pc0 := 213) (pc' := 217) rfl (hb hby at_213) (by decide) (by decide) k) ?_
    show own_Go _ _ _ _ (T507.setTop (mkF m 217 #[.val (.int p1), .val (.int p2), .val (.int p3), .val (.int (1 : Int32)), .val (.int v4_458), .val (.int v5_459), .val (.ref bo460), .val (.int v7_461), .val (.int v8_462), .val (.int v9_463), .val .null, .val (.ref bs465), .val (.ref b472), .unset, .unset] [(.int (1 : Int32))]))
    refine own_by (fun _ k => XS.istore X507.here hx rfl (hb hby at_217) rfl (l' := #[.val (.int p1), .val (.int p2), .val (.int p3), .val (.int (1 : Int32)), .val (.int v4_458), .val (.int v5_459), .val (.ref bo460), .val (.int v7_461), .val (.int v8_462), .val (.int v9_463), .val .null, .val (.ref bs465), .val (.ref b472), .val (.int (1 : Int32)), .unset]) rfl k) ?_
    refine own_by (fun _ k => XS.aload X507.here hx rfl (hb hby at_219) rfl rfl k) ?_
    show own_Go _ _ _ _ (T507.setTop (mkF m 221 #[.val (.int p1), .val (.int p2), .val (.int p3), .val (.int (1 : Int32)), .val (.int v4_458), .val (.int v5_459), .val (.ref bo460), .val (.int v7_461), .val (.int v8_462), .val (.int v9_463), .val .null, .val (.ref bs465), .val (.ref b472), .val (.int (1 : Int32)), .unset] [(.ref bs465)]))
    refine own_ldcS X507 hx hZ hown (hw _ (List.mem_of_getElem? (i := 47) rfl)) (own_wS hw) e507 hS483 ks495 (hb hby at_221) 4 (by decide) (by decide) (by decide) (by decide) ?_
    intro b508 T508 h508 kk508 X508 e508 E508 hS508 ks508 hZ hown
    have f509 := f496.ext E508
    have f510 := f497.ext E508
    have f511 := f498.ext E508
    have f512 := f499.ext E508
    have f513 := f500.ext E508
    have f514 := f501.ext E508
    have f515 := f502.ext E508
    have f516 := FO495.ext E508
    have Z508 := Nat.le_trans Z495 E508.1
    show own_Go _ _ _ _ (T508.setTop (mkF m 223 #[.val (.int p1), .val (.int p2), .val (.int p3), .val (.int (1 : Int32)), .val (.int v4_458), .val (.int v5_459), .val (.ref bo460), .val (.int v7_461), .val (.int v8_462), .val (.int v9_463), .val .null, .val (.ref bs465), .val (.ref b472), .val (.int (1 : Int32)), .unset] [(.ref b508), (.ref bs465)]))
    refine own_callS X508 hx hZ hown (hw _ (List.mem_of_getElem? (i := 70) rfl)) (hw _ (List.mem_of_getElem? (i := 71) rfl)) (hw _ (List.mem_of_getElem? (i := 72) rfl)) (hw _ (List.mem_of_getElem? (i := 73) rfl)) (by decide) (rm12 l Z a0 hw [] bs465 b508 b_AT_MOST_ONCE h508 n0 Z508 f510) e508 (by rw [hml]; rfl) [(.ref bs465), (.ref b508)] [] rfl (lenOf own_pd11 rfl) rfl 0 (Nat.le_of_eq rfl) (by decide) (by decide) (Nat.le_of_ble_eq_true rfl) (Nat.le_of_ble_eq_true rfl) (hb hby at_223) ?_
    intro T517 Lc517 v517 X517 hQ517
    obtain ⟨h517, e517⟩ : ∃ h, T517.heap = h := ⟨_, rfl⟩
    rw [e517] at hQ517
    obtain ⟨bf517, rfl, N517q, K517, EO517, FO517⟩ := hQ517
    have N517 := Fr.app N507 N517q
    have f518 := own_sta_keep f509 K517 ns0
    have f519 := own_sta_keep f510 K517 ns0
    have f520 := own_sta_keep f511 K517 ns0
    have f521 := own_sta_keep f512 K517 ns0
    have f522 := own_sta_keep f513 K517 ns0
    have f523 := f514.trans K517 all0
    have f524 := f515.keep K517
    have f525 := f516.keep K517 nin0
    have Z517 := Nat.le_trans Z508 K517.1
    have ks517 := Nat.le_trans ks508 K517.1
    show own_Go _ _ _ _ (T517.setTop (mkF m 226 #[.val (.int p1), .val (.int p2), .val (.int p3), .val (.int (1 : Int32)), .val (.int v4_458), .val (.int v5_459), .val (.ref bo460), .val (.int v7_461), .val (.int v8_462), .val (.int v9_463), .val .null, .val (.ref bs465), .val (.ref b472), .val (.int (1 : Int32)), .unset] [(.ref bf517)]))
    refine own_callV X517 hx hZ hown (hw _ (List.mem_of_getElem? (i := 65) rfl)) (hw _ (List.mem_of_getElem? (i := 66) rfl)) (notFace_of_selects (args := #[]) (mvT hZ (hw _ (List.mem_of_getElem? (i := 68) rfl)))) (hw _ (List.mem_of_getElem? (i := 68) rfl)) (hw _ (List.mem_of_getElem? (i := 67) rfl)) (hw _ (List.mem_of_getElem? (i := 46) rfl)) (hw _ (List.mem_of_getElem? (i := 69) rfl)) (by decide) (rm11_n l Z a0 hw [] bf517 0 h517 n0 Z517 FO517) e517 bf517 EO517 (by rw [hml]; rfl) [] [] rfl (lenOf own_pd10 rfl) rfl 0 (Nat.le_of_eq rfl) (by decide) (by decide) (Nat.le_of_ble_eq_true rfl) (Nat.le_of_ble_eq_true rfl) (hb hby at_226) ?_
    intro T526 Lc526 v526 X526 hQ526
    obtain ⟨rfl, N526q, e526⟩ := hQ526
    have N526 := Fr.app N517 N526q
    show own_Go _ _ _ _ (T526.setTop (mkF m 229 #[.val (.int p1), .val (.int p2), .val (.int p3), .val (.int (1 : Int32)), .val (.int v4_458), .val (.int v5_459), .val (.ref bo460), .val (.int v7_461), .val (.int v8_462), .val (.int v9_463), .val .null, .val (.ref bs465), .val (.ref b472), .val (.int (1 : Int32)), .unset] [(.int (0 : Int32))]))
    refine own_by (fun _ k => XS.ifNo X526.here hx rfl (hb hby at_229) rfl ((if0 _ _).trans (teq (by decide)).2) k) ?_
    refine own_by (fun _ k => XS.iconst X526.here hx rfl (hb hby at_232) k) ?_
    show own_Go _ _ _ _ (T526.setTop (mkF m 233 #[.val (.int p1), .val (.int p2), .val (.int p3), .val (.int (1 : Int32)), .val (.int v4_458), .val (.int v5_459), .val (.ref bo460), .val (.int v7_461), .val (.int v8_462), .val (.int v9_463), .val .null, .val (.ref bs465), .val (.ref b472), .val (.int (1 : Int32)), .unset] [(.int (1 : Int32))]))
    refine own_by (fun _ k => XS.goto X526.here hx rfl (pc0 := 233) (pc' := 237) rfl (hb hby at_233) (by decide) (by decide) k) ?_
    show own_Go _ _ _ _ (T526.setTop (mkF m 237 #[.val (.int p1), .val (.int p2), .val (.int p3), .val (.int (1 : Int32)), .val (.int v4_458), .val (.int v5_459), .val (.ref bo460), .val (.int v7_461), .val (.int v8_462), .val (.int v9_463), .val .null, .val (.ref bs465), .val (.ref b472), .val (.int (1 : Int32)), .unset] [(.int (1 : Int32))]))
    refine own_by (fun _ k => XS.istore X526.here hx rfl (hb hby at_237) rfl (l' := #[.val (.int p1), .val (.int p2), .val (.int p3), .val (.int (1 : Int32)), .val (.int v4_458), .val (.int v5_459), .val (.ref bo460), .val (.int v7_461), .val (.int v8_462), .val (.int v9_463), .val .null, .val (.ref bs465), .val (.ref b472), .val (.int (1 : Int32)), .val (.int (1 : Int32))]) rfl k) ?_
    refine own_by (fun _ k => XS.iload X526.here hx rfl (hb hby at_239) rfl k) ?_
    show own_Go _ _ _ _ (T526.setTop (mkF m 241 #[.val (.int p1), .val (.int p2), .val (.int p3), .val (.int (1 : Int32)), .val (.int v4_458), .val (.int v5_459), .val (.ref bo460), .val (.int v7_461), .val (.int v8_462), .val (.int v9_463), .val .null, .val (.ref bs465), .val (.ref b472), .val (.int (1 : Int32)), .val (.int (1 : Int32))] [(.int (1 : Int32))]))
    refine own_by (fun _ k => XS.ifNo X526.here hx rfl (hb hby at_241) rfl ((if0 _ _).trans (feq (by decide)).1) k) ?_
    refine own_by (fun _ k => XS.iload X526.here hx rfl (hb hby at_244) rfl k) ?_
    show own_Go _ _ _ _ (T526.setTop (mkF m 246 #[.val (.int p1), .val (.int p2), .val (.int p3), .val (.int (1 : Int32)), .val (.int v4_458), .val (.int v5_459), .val (.ref bo460), .val (.int v7_461), .val (.int v8_462), .val (.int v9_463), .val .null, .val (.ref bs465), .val (.ref b472), .val (.int (1 : Int32)), .val (.int (1 : Int32))] [(.int (1 : Int32))]))
    refine own_by (fun _ k => XS.ifNo X526.here hx rfl (hb hby at_246) rfl ((if0 _ _).trans (feq (by decide)).1) k) ?_
    refine own_by (fun _ k => XS.iconst X526.here hx rfl (hb hby at_249) k) ?_
    show own_Go _ _ _ _ (T526.setTop (mkF m 250 #[.val (.int p1), .val (.int p2), .val (.int p3), .val (.int (1 : Int32)), .val (.int v4_458), .val (.int v5_459), .val (.ref bo460), .val (.int v7_461), .val (.int v8_462), .val (.int v9_463), .val .null, .val (.ref bs465), .val (.ref b472), .val (.int (1 : Int32)), .val (.int (1 : Int32))] [(.int (1 : Int32))]))
    refine own_by (fun _ k => XS.goto X526.here hx rfl (pc0 := 250) (pc' := 254) rfl (hb hby at_250) (by decide) (by decide) k) ?_
    show own_Go _ _ _ _ (T526.setTop (mkF m 254 #[.val (.int p1), .val (.int p2), .val (.int p3), .val (.int (1 : Int32)), .val (.int v4_458), .val (.int v5_459), .val (.ref bo460), .val (.int v7_461), .val (.int v8_462), .val (.int v9_463), .val .null, .val (.ref bs465), .val (.ref b472), .val (.int (1 : Int32)), .val (.int (1 : Int32))] [(.int (1 : Int32))]))
    exact own_retWN X526 hx Bd.notSynchronized e526 Bd.returns hS508 ks517 (by simp) (hb hby at_254) (⟨rfl, N526⟩) (by decide) (by decide)
set_option maxRecDepth 65536 in
set_option maxHeartbeats 40000000 in
theorem comes_1 {Post : Tables → Env → Array Value → State → Outcome → State → Prop} (hpost : ∀ tb e args s v u, (limb_1_1.after args s (.returned v) u = true ∧ limb_1_2.after args s (.returned v) u = true ∧ True) → ReturnedEndW s (.returned v) u (Jvm.fieldLocs frame_1_writes args s ++ Jvm.arrayLocs frame_1_arrays args s ++ Jvm.staticLocs frame_1_statics s) 32 2176 → Post tb e args s (.returned v) u) :
    ArmFor flags0 classFile x code maxLocals ret World_1 tables_1 room_1 Calls_1 rest_1 Pre_1 Post := by
  intro l hfl _ _ p e ha hc hk s m args below hf hA hF happ hP
  obtain ⟨hcalls, hrest, hpre⟩ := hP
  obtain ⟨-, -, -, hnamed, -, -, -, hat⟩ := (Spec.applies_iff hf).mp happ
  obtain ⟨hg, hn⟩ := and_e (Cond.before_iff.mp (show (Jvm.Cond.and given_1 narrow_1).before args s = true from hpre))
  obtain ⟨g1, g2⟩ := and_e hg
  obtain ⟨g3, g4⟩ := and_e g2
  obtain ⟨g5, g6⟩ := and_e g4
  obtain ⟨w0, w1, w2, rfl⟩ : ∃ w0 w1 w2 : Value, args = #[w0, w1, w2] := by
    have hs : args.size = 3 := by simpa [Cond.value, given_1] using g1
    obtain ⟨L⟩ := args
    match L, hs with
    | [w0, w1, w2], _ => exact ⟨w0, w1, w2, rfl⟩
  have hw := fun d (hd : d ∈ tables_1) => atoms_spec (ws := Jvm.Cond.code x code maxLocals ret :: tables_1) hat d (List.mem_cons_of_mem _ hd)
  have hfit : Fit s := fun {y c} hc i hi => by
    obtain ⟨ha, rfl⟩ := Array.getElem?_eq_some_iff.mp hc
    have q := List.all_eq_true.mp ((Array.all_eq_true_iff_forall_mem.mp hF) _ (Array.getElem_mem ha)) i (List.mem_range.mpr hi)
    simpa [Array.getElem?_eq_getElem hi] using q
  obtain ⟨hsets, hown0⟩ := atoms_of _ (rest_1_c_eq ▸ (show rest_1_c.before _ s = true from hrest))
  have hr0 := Cond.before_iff.mp hown0
  obtain ⟨i0, ei0⟩ := is_v g3
  obtain rfl : w0 = (.int i0) := Option.some.inj ei0
  obtain ⟨i1, ei1⟩ := is_v g5
  obtain rfl : w1 = (.int i1) := Option.some.inj ei1
  obtain ⟨i2, ei2⟩ := is_v g6
  obtain rfl : w2 = (.int i2) := Option.some.inj ei2
  obtain ⟨u1, u2⟩ := and_e hn
  obtain ⟨u3, u4⟩ := and_e u2
  obtain ⟨u5, u6⟩ := and_e u4
  obtain ⟨b_ONCE, eb_ONCE⟩ := exa_v u1
  have E_ONCE : Exa s s.heap b_ONCE "com/example/time_for_trials/timefortrials/cli/Usage$Occurs" := Exa.start eb_ONCE u1
  have S_ONCE : Sta s s.heap "com/example/time_for_trials/timefortrials/cli/Usage$Occurs" "ONCE" "Lcom/example/time_for_trials/timefortrials/cli/Usage$Occurs;" (.ref b_ONCE) := Sta.start eb_ONCE (Or.inr ⟨(hw _ (List.mem_of_getElem? (i := 5) rfl)), (hw _ (List.mem_of_getElem? (i := 6) rfl))⟩)
  obtain ⟨b_AT_MOST_ONCE, eb_AT_MOST_ONCE⟩ := exa_v u3
  have E_AT_MOST_ONCE : Exa s s.heap b_AT_MOST_ONCE "com/example/time_for_trials/timefortrials/cli/Usage$Occurs" := Exa.start eb_AT_MOST_ONCE u3
  have S_AT_MOST_ONCE : Sta s s.heap "com/example/time_for_trials/timefortrials/cli/Usage$Occurs" "AT_MOST_ONCE" "Lcom/example/time_for_trials/timefortrials/cli/Usage$Occurs;" (.ref b_AT_MOST_ONCE) := Sta.start eb_AT_MOST_ONCE (Or.inr ⟨(hw _ (List.mem_of_getElem? (i := 5) rfl)), (hw _ (List.mem_of_getElem? (i := 76) rfl))⟩)
  obtain ⟨b_AT_LEAST_ONCE, eb_AT_LEAST_ONCE⟩ := exa_v u5
  have E_AT_LEAST_ONCE : Exa s s.heap b_AT_LEAST_ONCE "com/example/time_for_trials/timefortrials/cli/Usage$Occurs" := Exa.start eb_AT_LEAST_ONCE u5
  have S_AT_LEAST_ONCE : Sta s s.heap "com/example/time_for_trials/timefortrials/cli/Usage$Occurs" "AT_LEAST_ONCE" "Lcom/example/time_for_trials/timefortrials/cli/Usage$Occurs;" (.ref b_AT_LEAST_ONCE) := Sta.start eb_AT_LEAST_ONCE (Or.inr ⟨(hw _ (List.mem_of_getElem? (i := 5) rfl)), (hw _ (List.mem_of_getElem? (i := 90) rfl))⟩)
  obtain ⟨b_ANY_NUMBER, eb_ANY_NUMBER⟩ := exa_v u6
  have E_ANY_NUMBER : Exa s s.heap b_ANY_NUMBER "com/example/time_for_trials/timefortrials/cli/Usage$Occurs" := Exa.start eb_ANY_NUMBER u6
  have S_ANY_NUMBER : Sta s s.heap "com/example/time_for_trials/timefortrials/cli/Usage$Occurs" "ANY_NUMBER" "Lcom/example/time_for_trials/timefortrials/cli/Usage$Occurs;" (.ref b_ANY_NUMBER) := Sta.start eb_ANY_NUMBER (Or.inr ⟨(hw _ (List.mem_of_getElem? (i := 5) rfl)), (hw _ (List.mem_of_getElem? (i := 92) rfl))⟩)
  have j0 := hsets _ (List.mem_of_getElem? (i := 0) rfl)
  obtain ⟨cs, ecs⟩ := is_v (Cond.before_iff.mp (hsets _ (List.mem_of_getElem? (i := 1) rfl)))
  have j2 := hsets _ (List.mem_of_getElem? (i := 2) rfl)
  have Pcs : ¬ cs = 0 := fun q => by subst q; simp [Cond.before, Cond.holds, Cond.value, ecs, Term.int_eval] at j2
  have PS : Sta s s.heap "java/lang/String" "COMPACT_STRINGS" "Z" (.int cs) := Sta.start ecs (Or.inl j0)
  obtain ⟨n, o, h1, h2, h3, _, L, rfl, ⟨rfl, N⟩, hq⟩ := rm0 l s _ hw tables_1 i0 i1 i2 b_ONCE b_AT_MOST_ONCE b_AT_LEAST_ONCE b_ANY_NUMBER cs s.heap s.heap.size (Nat.le_refl _) S_ONCE S_AT_MOST_ONCE S_AT_LEAST_ONCE S_ANY_NUMBER PS Pcs (fun _ _ q => q) (hcalls.1 ("java/lang/String", 7) (by simp [consts_1])) j2 p e ha hc hk s m _ below hf ((Spec.applies_iff_loose hf).mp happ).1 ⟨rfl, State.Warmed39.refl s, rfl, rfl⟩ trivial
  refine ⟨n, _, h1, h2, h3, hpost _ _ _ _ _ _ ⟨Cond.after_iff.mpr rfl, Cond.after_iff.mpr (eq_i res_at (Term.int_eval (1)) rfl), trivial⟩ ⟨hq.1, hq.2.1, hq.2.2.1, (hq.2.2.2.sift fun y hy => Or.inr (N y hy)).mono (by decide) (by decide)⟩⟩
theorem main_1_1 : Claimed_1_1 := comes_1 fun _ _ _ _ _ _ h hF => ⟨h.1, hF⟩
theorem main_1_2 : Claimed_1_2 := comes_1 fun _ _ _ _ _ _ h hF => ⟨h.2.1, hF⟩
end Jvm.Pilot.@@N@@
namespace Jvm.Pilot.@@N@@
open Jvm Jvm.ClassFile Sem Op Lib Jvm.Free Jvm.Stand Jvm.Pilot.@@N@@.Jvm.D
/-! MADE BY PROGRAM (witnessworld.py) out of the Statement's table words and the real class files: 24 classes; the members and pool entries that the words name. The judged class is class 1, her method 2. -/
namespace start1
open Jvm.ClassFile
def u (s : String) : CpInfo := .utf8 (stringToUtf16 s)
/-- a pool by its gaps: so many unusable entries, then the entry; so many at the end -/
def gap : Nat → List CpInfo → List CpInfo
  | 0, r => r
  | n + 1, r => .unusable :: gap n r
def poolList (es : List (Nat × CpInfo)) (last : Nat) : List CpInfo := es.foldr (fun e r => gap e.1 (e.2 :: r)) (gap last [])
def pool (es : List (Nat × CpInfo)) (last : Nat) : Array CpInfo := ⟨poolList es last⟩
def fileOf (pool : Array CpInfo) (this : Nat) (attrs : Array Attribute := #[]) (ms : Array MethodInfo := #[]) (fl : Nat := 33) (sup : Nat := 0) (ifs : Array Nat := #[]) (fds : Array FieldInfo := #[]) : ClassFile where
  minorVersion := 0
  majorVersion := 65
  constantPool := pool
  accessFlags := fl
  thisClass := this
  superClass := sup
  interfaces := ifs
  fields := fds
  methods := ms
  attributes := attrs
def plain (name : String) (sup : Option ClassId) : Class where
  name := name
  kind := .ordinary
  loader := none
  accessFlags := 33
  super := sup
  interfaces := #[]
  cf := none
  fields := #[]
  methods := #[]
  instanceTypes := #[]
  staticTypes := #[]
  resolved := #[]
  callSites := []
  init := .initialized
  statics := none
  mirror := none

def pool0 : Array CpInfo := pool [(5, u "<init>"), (0, u "()V"), (1, .class_ 10), (1, u "java/lang/Object")] 113

def k0c0 : Code := { maxStack := 0, maxLocals := 1, code := object_method_1_code, exceptionTable := #[], attributes := #[] }
def k0m0 : Method := { name := "<init>", desc := "()V", sig := { parameters := [], returnType := none }, accessFlags := 1, code := some k0c0 }
/-- java/lang/Object -/
def k0 : Class := { plain "java/lang/Object" none with
  accessFlags := 33
  interfaces := #[]
  cf := some (fileOf pool0 8 #[] #[{ accessFlags := 1, nameIndex := 5, descriptorIndex := 6, attributes := #[] }] 33 0 #[] #[])
  fields := #[]
  methods := #[k0m0]
  instanceTypes := #[]
  staticTypes := #[]
  resolved := Array.replicate 124 none
  statics := none }

def pool1 : Array CpInfo := pool [(2, .class_ 4), (1, u "java/lang/Object"), (0, u "<init>"), (0, u "()V"), (0, .fieldref 8 9), (0, .class_ 10), (0, .nameAndType 11 12), (0, u "com/example/time_for_trials/timefortrials/cli/Usage$Occurs"), (0, u "ONCE"), (0, u "Lcom/example/time_for_trials/timefortrials/cli/Usage$Occurs;"), (0, .fieldref 8 14), (0, .nameAndType 15 12), (0, u "AT_MOST_ONCE"), (0, .fieldref 8 17), (0, .nameAndType 18 12), (0, u "AT_LEAST_ONCE"), (0, .fieldref 8 20), (0, .nameAndType 21 12), (0, u "ANY_NUMBER"), (0, .methodref 23 24), (0, .class_ 25), (0, .nameAndType 26 27), (0, u "com/example/time_for_trials/timefortrials/cli/OptionTakesValuePinLaw"), (0, u "occursOf"), (0, u "(I)Lcom/example/time_for_trials/timefortrials/cli/Usage$Occurs;"), (0, .class_ 29), (0, u "java/lang/String"), (0, .methodref 28 31), (0, .nameAndType 5 32), (0, u "([C)V"), (0, .methodref 28 34), (0, .nameAndType 35 36), (0, u "valueOf"), (0, u "(C)Ljava/lang/String;"), (0, .class_ 38), (0, u "com/example/time_for_trials/timefortrials/cli/Usage$Option"), (0, .string 40), (0, u "d"), (0, .methodref 37 42), (0, .nameAndType 5 43), (0, u "(Ljava/lang/String;Ljava/lang/String;Lcom/example/time_for_trials/timefortrials/cli/Usage$Occurs;Ljava/lang/String;)V"), (0, .methodref 37 45), (0, .nameAndType 46 47), (0, u "takesValue"), (0, u "()Z"), (0, .methodref 49 50), (0, .class_ 51), (0, .nameAndType 52 53), (0, u "com/example/time_for_trials/timefortrials/cli/Usage"), (0, u "flag"), (0, u "(Ljava/lang/String;Ljava/lang/String;)Lcom/example/time_for_trials/timefortrials/cli/Usage$Option;"), (3, u "law"), (0, u "(III)Z")] 5

def k1m0 : Method := { name := "<init>", desc := "()V", sig := { parameters := [], returnType := none }, accessFlags := 1, code := none }
def k1c1 : Code := { maxStack := 2, maxLocals := 1, code := method_2_code, exceptionTable := #[], attributes := #[] }
def k1m1 : Method := { name := "occursOf", desc := "(I)Lcom/example/time_for_trials/timefortrials/cli/Usage$Occurs;", sig := { parameters := [.int], returnType := some (.object "com/example/time_for_trials/timefortrials/cli/Usage$Occurs") }, accessFlags := 10, code := some k1c1 }
def k1c2 : Code := { maxStack := 6, maxLocals := 15, code := code, exceptionTable := #[], attributes := #[] }
def k1m2 : Method := { name := "law", desc := "(III)Z", sig := { parameters := [.int, .int, .int], returnType := some .boolean }, accessFlags := 9, code := some k1c2 }
/-- com/example/time_for_trials/timefortrials/cli/OptionTakesValuePinLaw -/
def k1 : Class := { plain "com/example/time_for_trials/timefortrials/cli/OptionTakesValuePinLaw" (some 0) with
  accessFlags := 49
  interfaces := #[]
  cf := some (fileOf pool1 23 #[] #[{ accessFlags := 1, nameIndex := 5, descriptorIndex := 6, attributes := #[] }, { accessFlags := 10, nameIndex := 26, descriptorIndex := 27, attributes := #[] }, { accessFlags := 9, nameIndex := 57, descriptorIndex := 58, attributes := #[] }] 49 2 #[] #[])
  fields := #[]
  methods := #[k1m0, k1m1, k1m2]
  instanceTypes := #[]
  staticTypes := #[]
  resolved := Array.replicate 64 none
  statics := none }

def pool2 : Array CpInfo := pool [(1, .class_ 2), (0, u "java/lang/constant/Constable"), (0, .class_ 4), (0, u "java/lang/Object")] 6

/-- java/lang/constant/Constable -/
def k2 : Class := { plain "java/lang/constant/Constable" (some 0) with
  accessFlags := 1537
  interfaces := #[]
  cf := some (fileOf pool2 1 #[] #[] 1537 3 #[] #[])
  fields := #[]
  methods := #[]
  instanceTypes := #[]
  staticTypes := #[]
  resolved := Array.replicate 11 none
  statics := none }

def pool3 : Array CpInfo := pool [(1, .class_ 2), (0, u "java/lang/Comparable"), (0, .class_ 4), (0, u "java/lang/Object")] 7

/-- java/lang/Comparable -/
def k3 : Class := { plain "java/lang/Comparable" (some 0) with
  accessFlags := 1537
  interfaces := #[]
  cf := some (fileOf pool3 1 #[] #[] 1537 3 #[] #[])
  fields := #[]
  methods := #[]
  instanceTypes := #[]
  staticTypes := #[]
  resolved := Array.replicate 12 none
  statics := none }

def pool4 : Array CpInfo := pool [(1, .class_ 2), (0, u "java/io/Serializable"), (0, .class_ 4), (0, u "java/lang/Object")] 2

/-- java/io/Serializable -/
def k4 : Class := { plain "java/io/Serializable" (some 0) with
  accessFlags := 1537
  interfaces := #[]
  cf := some (fileOf pool4 1 #[] #[] 1537 3 #[] #[])
  fields := #[]
  methods := #[]
  instanceTypes := #[]
  staticTypes := #[]
  resolved := Array.replicate 7 none
  statics := none }

def pool5 : Array CpInfo := pool [(2, .class_ 4), (1, u "java/lang/Enum"), (0, u "name"), (0, u "Ljava/lang/String;"), (2, u "ordinal"), (0, u "I"), (1, .class_ 14), (1, u "java/lang/Object"), (4, u "hash"), (86, .class_ 108), (1, u "java/lang/Enum$EnumDesc"), (2, .class_ 112), (0, u "java/lang/constant/Constable"), (0, .class_ 114), (0, u "java/lang/Comparable"), (0, .class_ 116), (0, u "java/io/Serializable")] 87

/-- java/lang/Enum -/
def k5 : Class := { plain "java/lang/Enum" (some 0) with
  accessFlags := 1057
  interfaces := #[2, 3, 4]
  cf := some (fileOf pool5 2 #[.nestMembers #[106]] #[] 1057 12 #[111, 113, 115] #[{ accessFlags := 18, nameIndex := 5, descriptorIndex := 6, attributes := #[] }, { accessFlags := 18, nameIndex := 9, descriptorIndex := 10, attributes := #[] }, { accessFlags := 2, nameIndex := 19, descriptorIndex := 10, attributes := #[] }])
  fields := #[{ name := "name", type := (.object "java/lang/String"), accessFlags := 18, slot := 0, constantValue := 0 }, { name := "ordinal", type := .int, accessFlags := 18, slot := 1, constantValue := 0 }, { name := "hash", type := .int, accessFlags := 2, slot := 2, constantValue := 0 }]
  methods := #[]
  instanceTypes := #[(.object "java/lang/String"), .int, .int]
  staticTypes := #[]
  resolved := Array.replicate 204 none
  statics := none }

def pool6 : Array CpInfo := pool [(1, .class_ 2), (0, u "com/example/time_for_trials/timefortrials/cli/Usage$Occurs"), (2, u "ONCE"), (0, u "Lcom/example/time_for_trials/timefortrials/cli/Usage$Occurs;"), (2, u "AT_MOST_ONCE"), (2, u "AT_LEAST_ONCE"), (2, u "ANY_NUMBER"), (2, u "$VALUES"), (0, u "[Lcom/example/time_for_trials/timefortrials/cli/Usage$Occurs;"), (6, .class_ 28), (1, u "java/lang/Enum"), (27, .class_ 57), (0, u "com/example/time_for_trials/timefortrials/cli/Usage")] 2

/-- com/example/time_for_trials/timefortrials/cli/Usage$Occurs -/
def k6 : Class := { plain "com/example/time_for_trials/timefortrials/cli/Usage$Occurs" (some 5) with
  accessFlags := 16432
  interfaces := #[]
  cf := some (fileOf pool6 1 #[.nestHost 56] #[] 16432 26 #[] #[{ accessFlags := 16409, nameIndex := 5, descriptorIndex := 6, attributes := #[] }, { accessFlags := 16409, nameIndex := 9, descriptorIndex := 6, attributes := #[] }, { accessFlags := 16409, nameIndex := 12, descriptorIndex := 6, attributes := #[] }, { accessFlags := 16409, nameIndex := 15, descriptorIndex := 6, attributes := #[] }, { accessFlags := 4122, nameIndex := 18, descriptorIndex := 19, attributes := #[] }])
  fields := #[{ name := "ONCE", type := (.object "com/example/time_for_trials/timefortrials/cli/Usage$Occurs"), accessFlags := 16409, slot := 0, constantValue := 0 }, { name := "AT_MOST_ONCE", type := (.object "com/example/time_for_trials/timefortrials/cli/Usage$Occurs"), accessFlags := 16409, slot := 1, constantValue := 0 }, { name := "AT_LEAST_ONCE", type := (.object "com/example/time_for_trials/timefortrials/cli/Usage$Occurs"), accessFlags := 16409, slot := 2, constantValue := 0 }, { name := "ANY_NUMBER", type := (.object "com/example/time_for_trials/timefortrials/cli/Usage$Occurs"), accessFlags := 16409, slot := 3, constantValue := 0 }, { name := "$VALUES", type := (.array (.object "com/example/time_for_trials/timefortrials/cli/Usage$Occurs")), accessFlags := 4122, slot := 4, constantValue := 0 }]
  methods := #[]
  instanceTypes := #[(.object "java/lang/String"), .int, .int]
  staticTypes := #[(.object "com/example/time_for_trials/timefortrials/cli/Usage$Occurs"), (.object "com/example/time_for_trials/timefortrials/cli/Usage$Occurs"), (.object "com/example/time_for_trials/timefortrials/cli/Usage$Occurs"), (.object "com/example/time_for_trials/timefortrials/cli/Usage$Occurs"), (.array (.object "com/example/time_for_trials/timefortrials/cli/Usage$Occurs"))]
  resolved := Array.replicate 60 none
  statics := some 0 }

def pool7 : Array CpInfo := pool [(2, .class_ 4), (1, u "java/lang/CharSequence"), (42, .class_ 48), (0, u "java/lang/CharSequence$1CodePointIterator"), (10, .class_ 60), (0, u "java/lang/CharSequence$1CharIterator"), (5, .class_ 67), (0, u "java/lang/Object")] 63

/-- java/lang/CharSequence -/
def k7 : Class := { plain "java/lang/CharSequence" (some 0) with
  accessFlags := 1537
  interfaces := #[]
  cf := some (fileOf pool7 2 #[.nestMembers #[47, 59]] #[] 1537 66 #[] #[])
  fields := #[]
  methods := #[]
  instanceTypes := #[]
  staticTypes := #[]
  resolved := Array.replicate 131 none
  statics := none }

def pool8 : Array CpInfo := pool [(1, .class_ 2), (0, u "java/lang/constant/ConstantDesc"), (0, .class_ 4), (0, u "java/lang/Object")] 32

/-- java/lang/constant/ConstantDesc -/
def k8 : Class := { plain "java/lang/constant/ConstantDesc" (some 0) with
  accessFlags := 1537
  interfaces := #[]
  cf := some (fileOf pool8 1 #[] #[] 1537 3 #[] #[])
  fields := #[]
  methods := #[]
  instanceTypes := #[]
  staticTypes := #[]
  resolved := Array.replicate 37 none
  statics := none }

def pool9 : Array CpInfo := pool [(1, .methodref 2 3), (0, .class_ 4), (0, .nameAndType 5 6), (0, u "java/lang/Object"), (0, u "<init>"), (0, u "()V"), (0, .string 8), (0, u ""), (0, .fieldref 10 11), (0, .class_ 12), (0, .nameAndType 13 14), (0, u "java/lang/String"), (0, u "value"), (0, u "[B"), (0, .fieldref 10 16), (0, .nameAndType 17 18), (0, u "coder"), (0, u "B"), (2, u "hash"), (0, u "I"), (2, u "hashIsZero"), (0, u "Z"), (0, .methodref 10 28), (0, .nameAndType 5 29), (0, u "([CIILjava/lang/Void;)V"), (8, .fieldref 10 39), (0, .nameAndType 40 26), (0, u "COMPACT_STRINGS"), (1, .class_ 44), (1, u "java/lang/StringUTF16"), (0, u "compress"), (1, .methodref 42 48), (0, .nameAndType 49 50), (0, u "coderFromArrayLen"), (0, u "([BI)B"), (2, u "toBytes"), (53, .class_ 109), (1, u "java/lang/StringLatin1"), (67, .methodref 42 178), (0, .nameAndType 45 179), (0, u "([CII)[B"), (29, .methodref 10 210), (0, .nameAndType 5 211), (0, u "([BB)V"), (157, u "(C)Z"), (205, .class_ 576), (0, u "java/lang/CharSequence"), (22, u "CASE_INSENSITIVE_ORDER"), (0, u "Ljava/util/Comparator;"), (181, u "valueOf"), (0, u "(C)Ljava/lang/String;"), (226, u "([C)V"), (4, .methodref 107 1016), (0, .nameAndType 1017 369), (0, u "canEncode"), (0, .methodref 107 1019), (0, .nameAndType 53 1020), (0, u "(C)[B"), (80, u "serialPersistentFields"), (0, u "[Ljava/io/ObjectStreamField;"), (0, .class_ 1104), (0, u "java/lang/String$CaseInsensitiveComparator"), (1, .class_ 1107), (0, u "java/io/Serializable"), (0, .class_ 1109), (0, u "java/lang/Comparable"), (0, .class_ 1111), (0, u "java/lang/constant/Constable"), (0, .class_ 1113), (0, u "java/lang/constant/ConstantDesc"), (2, u "serialVersionUID"), (0, u "J"), (3, u "REPL"), (0, u "C"), (2, u "LATIN1"), (1, u "UTF16")] 323

def k9m0 : Method := { name := "<init>", desc := "()V", sig := { parameters := [], returnType := none }, accessFlags := 1, code := none }
def k9c1 : Code := { maxStack := 5, maxLocals := 2, code := jdk_42_method_3_code, exceptionTable := #[], attributes := #[] }
def k9m1 : Method := { name := "<init>", desc := "([C)V", sig := { parameters := [(.array .char)], returnType := none }, accessFlags := 1, code := some k9c1 }
def k9c2 : Code := { maxStack := 4, maxLocals := 1, code := jdk_42_method_139_code, exceptionTable := #[], attributes := #[] }
def k9m2 : Method := { name := "valueOf", desc := "(C)Ljava/lang/String;", sig := { parameters := [.char], returnType := some (.object "java/lang/String") }, accessFlags := 9, code := some k9c2 }
def k9c3 : Code := { maxStack := 4, maxLocals := 6, code := jdk_42_method_149_code, exceptionTable := #[], attributes := #[] }
def k9m3 : Method := { name := "<init>", desc := "([CIILjava/lang/Void;)V", sig := { parameters := [(.array .char), .int, .int, (.object "java/lang/Void")], returnType := none }, accessFlags := 2, code := some k9c3 }
def k9c4 : Code := { maxStack := 2, maxLocals := 3, code := jdk_42_method_151_code, exceptionTable := #[], attributes := #[] }
def k9m4 : Method := { name := "<init>", desc := "([BB)V", sig := { parameters := [(.array .byte), .byte], returnType := none }, accessFlags := 0, code := some k9c4 }
/-- java/lang/String -/
def k9 : Class := { plain "java/lang/String" (some 0) with
  accessFlags := 49
  interfaces := #[4, 3, 7, 2, 8]
  cf := some (fileOf pool9 10 #[.nestMembers #[1103]] #[{ accessFlags := 1, nameIndex := 5, descriptorIndex := 6, attributes := #[] }, { accessFlags := 1, nameIndex := 5, descriptorIndex := 1010, attributes := #[] }, { accessFlags := 9, nameIndex := 782, descriptorIndex := 783, attributes := #[] }, { accessFlags := 2, nameIndex := 5, descriptorIndex := 29, attributes := #[] }, { accessFlags := 0, nameIndex := 5, descriptorIndex := 211, attributes := #[] }] 49 2 #[1106, 1108, 575, 1110, 1112] #[{ accessFlags := 18, nameIndex := 13, descriptorIndex := 14, attributes := #[] }, { accessFlags := 18, nameIndex := 17, descriptorIndex := 18, attributes := #[] }, { accessFlags := 2, nameIndex := 21, descriptorIndex := 22, attributes := #[] }, { accessFlags := 2, nameIndex := 25, descriptorIndex := 26, attributes := #[] }, { accessFlags := 26, nameIndex := 1116, descriptorIndex := 1117, attributes := #[] }, { accessFlags := 24, nameIndex := 40, descriptorIndex := 26, attributes := #[] }, { accessFlags := 26, nameIndex := 1101, descriptorIndex := 1102, attributes := #[] }, { accessFlags := 26, nameIndex := 1121, descriptorIndex := 1122, attributes := #[] }, { accessFlags := 25, nameIndex := 599, descriptorIndex := 600, attributes := #[] }, { accessFlags := 24, nameIndex := 1125, descriptorIndex := 18, attributes := #[] }, { accessFlags := 24, nameIndex := 1127, descriptorIndex := 18, attributes := #[] }])
  fields := #[{ name := "value", type := (.array .byte), accessFlags := 18, slot := 0, constantValue := 0 }, { name := "coder", type := .byte, accessFlags := 18, slot := 1, constantValue := 0 }, { name := "hash", type := .int, accessFlags := 2, slot := 2, constantValue := 0 }, { name := "hashIsZero", type := .boolean, accessFlags := 2, slot := 3, constantValue := 0 }, { name := "serialVersionUID", type := .long, accessFlags := 26, slot := 0, constantValue := 0 }, { name := "COMPACT_STRINGS", type := .boolean, accessFlags := 24, slot := 1, constantValue := 0 }, { name := "serialPersistentFields", type := (.array (.object "java/io/ObjectStreamField")), accessFlags := 26, slot := 2, constantValue := 0 }, { name := "REPL", type := .char, accessFlags := 26, slot := 3, constantValue := 0 }, { name := "CASE_INSENSITIVE_ORDER", type := (.object "java/util/Comparator"), accessFlags := 25, slot := 4, constantValue := 0 }, { name := "LATIN1", type := .byte, accessFlags := 24, slot := 5, constantValue := 0 }, { name := "UTF16", type := .byte, accessFlags := 24, slot := 6, constantValue := 0 }]
  methods := #[k9m0, k9m1, k9m2, k9m3, k9m4]
  instanceTypes := #[(.array .byte), .byte, .int, .boolean]
  staticTypes := #[.long, .boolean, (.array (.object "java/io/ObjectStreamField")), .char, (.object "java/util/Comparator"), .byte, .byte]
  resolved := Array.replicate 1451 none
  statics := some 1 }

def pool10 : Array CpInfo := pool [(4, .class_ 6), (1, u "java/lang/Object"), (0, u "<init>"), (0, u "()V"), (5, .class_ 16), (1, u "java/lang/StringLatin1"), (73, u "canEncode"), (14, u "(C)Z"), (15, u "$assertionsDisabled"), (0, u "Z"), (98, .class_ 223), (1, u "java/lang/StringLatin1$LinesSpliterator"), (156, u "toBytes"), (1, u "(C)[B"), (7, .class_ 391), (0, u "java/lang/StringLatin1$CharsSpliterator")] 3

def k10m0 : Method := { name := "<init>", desc := "()V", sig := { parameters := [], returnType := none }, accessFlags := 0, code := none }
def k10c1 : Code := { maxStack := 2, maxLocals := 1, code := jdk_43_method_3_code, exceptionTable := #[], attributes := #[] }
def k10m1 : Method := { name := "canEncode", desc := "(C)Z", sig := { parameters := [.char], returnType := some .boolean }, accessFlags := 9, code := some k10c1 }
def k10c2 : Code := { maxStack := 4, maxLocals := 1, code := jdk_43_method_46_code, exceptionTable := #[], attributes := #[] }
def k10m2 : Method := { name := "toBytes", desc := "(C)[B", sig := { parameters := [.char], returnType := some (.array .byte) }, accessFlags := 9, code := some k10c2 }
/-- java/lang/StringLatin1 -/
def k10 : Class := { plain "java/lang/StringLatin1" (some 0) with
  accessFlags := 48
  interfaces := #[]
  cf := some (fileOf pool10 14 #[.nestMembers #[390, 221]] #[{ accessFlags := 0, nameIndex := 7, descriptorIndex := 8, attributes := #[] }, { accessFlags := 9, nameIndex := 90, descriptorIndex := 105, attributes := #[] }, { accessFlags := 9, nameIndex := 380, descriptorIndex := 382, attributes := #[] }] 48 4 #[] #[{ accessFlags := 4120, nameIndex := 121, descriptorIndex := 122, attributes := #[] }])
  fields := #[{ name := "$assertionsDisabled", type := .boolean, accessFlags := 4120, slot := 0, constantValue := 0 }]
  methods := #[k10m0, k10m1, k10m2]
  instanceTypes := #[]
  staticTypes := #[.boolean]
  resolved := Array.replicate 395 none
  statics := none }

def pool11 : Array CpInfo := pool [(1, .methodref 2 3), (0, .class_ 4), (0, .nameAndType 5 6), (0, u "java/lang/Object"), (0, u "<init>"), (0, u "()V"), (0, .class_ 8), (0, u "java/lang/Record")] 13

def k11c0 : Code := { maxStack := 1, maxLocals := 1, code := jdk_30_method_1_code, exceptionTable := #[], attributes := #[] }
def k11m0 : Method := { name := "<init>", desc := "()V", sig := { parameters := [], returnType := none }, accessFlags := 4, code := some k11c0 }
/-- java/lang/Record -/
def k11 : Class := { plain "java/lang/Record" (some 0) with
  accessFlags := 1057
  interfaces := #[]
  cf := some (fileOf pool11 7 #[] #[{ accessFlags := 4, nameIndex := 5, descriptorIndex := 6, attributes := #[] }] 1057 2 #[] #[])
  fields := #[]
  methods := #[k11m0]
  instanceTypes := #[]
  staticTypes := #[]
  resolved := Array.replicate 22 none
  statics := none }

def pool12 : Array CpInfo := pool [(1, .methodref 2 3), (0, .class_ 4), (0, .nameAndType 5 6), (0, u "java/lang/Record"), (0, u "<init>"), (0, u "()V"), (0, .fieldref 8 9), (0, .class_ 10), (0, .nameAndType 11 12), (0, u "com/example/time_for_trials/timefortrials/cli/Usage$Option"), (0, u "name"), (0, u "Ljava/lang/String;"), (0, .fieldref 8 14), (0, .nameAndType 15 12), (0, u "value"), (0, .fieldref 8 17), (0, .nameAndType 18 19), (0, u "occurs"), (0, u "Lcom/example/time_for_trials/timefortrials/cli/Usage$Occurs;"), (0, .fieldref 8 21), (0, .nameAndType 22 12), (0, u "description"), (2, u "takesValue"), (0, u "()Z"), (35, u "(Ljava/lang/String;Ljava/lang/String;Lcom/example/time_for_trials/timefortrials/cli/Usage$Occurs;Ljava/lang/String;)V"), (13, .class_ 77), (0, u "com/example/time_for_trials/timefortrials/cli/Usage")] 35

def k12c0 : Code := { maxStack := 2, maxLocals := 5, code := prog_9_method_1_code, exceptionTable := #[], attributes := #[] }
def k12m0 : Method := { name := "<init>", desc := "(Ljava/lang/String;Ljava/lang/String;Lcom/example/time_for_trials/timefortrials/cli/Usage$Occurs;Ljava/lang/String;)V", sig := { parameters := [(.object "java/lang/String"), (.object "java/lang/String"), (.object "com/example/time_for_trials/timefortrials/cli/Usage$Occurs"), (.object "java/lang/String")], returnType := none }, accessFlags := 0, code := some k12c0 }
def k12c1 : Code := { maxStack := 1, maxLocals := 1, code := prog_9_method_2_code, exceptionTable := #[], attributes := #[] }
def k12m1 : Method := { name := "takesValue", desc := "()Z", sig := { parameters := [], returnType := some .boolean }, accessFlags := 0, code := some k12c1 }
/-- com/example/time_for_trials/timefortrials/cli/Usage$Option -/
def k12 : Class := { plain "com/example/time_for_trials/timefortrials/cli/Usage$Option" (some 11) with
  accessFlags := 48
  interfaces := #[]
  cf := some (fileOf pool12 8 #[.nestHost 76] #[{ accessFlags := 0, nameIndex := 5, descriptorIndex := 62, attributes := #[] }, { accessFlags := 0, nameIndex := 25, descriptorIndex := 26, attributes := #[] }] 48 2 #[] #[{ accessFlags := 18, nameIndex := 11, descriptorIndex := 12, attributes := #[] }, { accessFlags := 18, nameIndex := 15, descriptorIndex := 12, attributes := #[] }, { accessFlags := 18, nameIndex := 18, descriptorIndex := 19, attributes := #[] }, { accessFlags := 18, nameIndex := 22, descriptorIndex := 12, attributes := #[] }])
  fields := #[{ name := "name", type := (.object "java/lang/String"), accessFlags := 18, slot := 0, constantValue := 0 }, { name := "value", type := (.object "java/lang/String"), accessFlags := 18, slot := 1, constantValue := 0 }, { name := "occurs", type := (.object "com/example/time_for_trials/timefortrials/cli/Usage$Occurs"), accessFlags := 18, slot := 2, constantValue := 0 }, { name := "description", type := (.object "java/lang/String"), accessFlags := 18, slot := 3, constantValue := 0 }]
  methods := #[k12m0, k12m1]
  instanceTypes := #[(.object "java/lang/String"), (.object "java/lang/String"), (.object "com/example/time_for_trials/timefortrials/cli/Usage$Occurs"), (.object "java/lang/String")]
  staticTypes := #[]
  resolved := Array.replicate 113 none
  statics := none }

def pool13 : Array CpInfo := pool [(2, .class_ 4), (1, u "java/lang/Object"), (0, u "<init>"), (2, .class_ 10), (1, u "com/example/time_for_trials/timefortrials/cli/Usage"), (0, u "command"), (0, u "Ljava/lang/String;"), (2, u "summary"), (8, u "options"), (0, u "Ljava/util/List;"), (0, .class_ 27), (0, u "com/example/time_for_trials/timefortrials/cli/Usage$Option"), (0, .fieldref 29 30), (0, .class_ 31), (0, .nameAndType 32 33), (0, u "com/example/time_for_trials/timefortrials/cli/Usage$Occurs"), (0, u "AT_MOST_ONCE"), (0, u "Lcom/example/time_for_trials/timefortrials/cli/Usage$Occurs;"), (0, .methodref 26 35), (0, .nameAndType 5 36), (0, u "(Ljava/lang/String;Ljava/lang/String;Lcom/example/time_for_trials/timefortrials/cli/Usage$Occurs;Ljava/lang/String;)V"), (106, .class_ 145), (1, u "com/example/time_for_trials/timefortrials/cli/Usage$Standard"), (11, .class_ 158), (0, u "com/example/time_for_trials/timefortrials/cli/Usage$Line"), (32, u "DETAILS"), (1, u "INDENT"), (0, u "HELP_COMMAND"), (5, u "flag"), (0, u "(Ljava/lang/String;Ljava/lang/String;)Lcom/example/time_for_trials/timefortrials/cli/Usage$Option;")] 36

def k13c0 : Code := { maxStack := 6, maxLocals := 2, code := prog_6_method_2_code, exceptionTable := #[], attributes := #[] }
def k13m0 : Method := { name := "flag", desc := "(Ljava/lang/String;Ljava/lang/String;)Lcom/example/time_for_trials/timefortrials/cli/Usage$Option;", sig := { parameters := [(.object "java/lang/String"), (.object "java/lang/String")], returnType := some (.object "com/example/time_for_trials/timefortrials/cli/Usage$Option") }, accessFlags := 8, code := some k13c0 }
/-- com/example/time_for_trials/timefortrials/cli/Usage -/
def k13 : Class := { plain "com/example/time_for_trials/timefortrials/cli/Usage" (some 0) with
  accessFlags := 32
  interfaces := #[]
  cf := some (fileOf pool13 8 #[.nestMembers #[157, 26, 143, 29]] #[{ accessFlags := 8, nameIndex := 200, descriptorIndex := 201, attributes := #[] }] 32 2 #[] #[{ accessFlags := 26, nameIndex := 191, descriptorIndex := 12, attributes := #[] }, { accessFlags := 26, nameIndex := 193, descriptorIndex := 12, attributes := #[] }, { accessFlags := 24, nameIndex := 194, descriptorIndex := 12, attributes := #[] }, { accessFlags := 18, nameIndex := 11, descriptorIndex := 12, attributes := #[] }, { accessFlags := 18, nameIndex := 15, descriptorIndex := 12, attributes := #[] }, { accessFlags := 18, nameIndex := 24, descriptorIndex := 25, attributes := #[] }])
  fields := #[{ name := "DETAILS", type := (.object "java/lang/String"), accessFlags := 26, slot := 0, constantValue := 0 }, { name := "INDENT", type := (.object "java/lang/String"), accessFlags := 26, slot := 1, constantValue := 0 }, { name := "HELP_COMMAND", type := (.object "java/lang/String"), accessFlags := 24, slot := 2, constantValue := 0 }, { name := "command", type := (.object "java/lang/String"), accessFlags := 18, slot := 0, constantValue := 0 }, { name := "summary", type := (.object "java/lang/String"), accessFlags := 18, slot := 1, constantValue := 0 }, { name := "options", type := (.object "java/util/List"), accessFlags := 18, slot := 2, constantValue := 0 }]
  methods := #[k13m0]
  instanceTypes := #[(.object "java/lang/String"), (.object "java/lang/String"), (.object "java/util/List")]
  staticTypes := #[(.object "java/lang/String"), (.object "java/lang/String"), (.object "java/lang/String")]
  resolved := Array.replicate 238 none
  statics := none }

def pool14 : Array CpInfo := pool [(6, .class_ 8), (1, u "java/lang/Object"), (0, u "<init>"), (0, u "()V"), (1, .class_ 14), (1, u "java/lang/StringUTF16"), (31, u "$assertionsDisabled"), (0, u "Z"), (13, u "HI_BYTE_SHIFT"), (0, u "I"), (2, u "LO_BYTE_SHIFT"), (49, .methodref 12 116), (0, .nameAndType 117 118), (0, u "compress"), (0, u "([CI[BII)I"), (3, u "([CII)[B"), (138, u "coderFromArrayLen"), (0, u "([BI)B"), (106, .class_ 371), (1, u "java/lang/StringUTF16$LinesSpliterator"), (58, u "MAX_LENGTH"), (196, .class_ 628), (0, u "java/lang/StringUTF16$CodePointsSpliterator"), (0, .class_ 630), (0, u "java/lang/StringUTF16$CharsSpliterator")] 4

def k14m0 : Method := { name := "<init>", desc := "()V", sig := { parameters := [], returnType := none }, accessFlags := 0, code := none }
def k14c1 : Code := { maxStack := 2, maxLocals := 2, code := jdk_52_method_15_code, exceptionTable := #[], attributes := #[] }
def k14m1 : Method := { name := "coderFromArrayLen", desc := "([BI)B", sig := { parameters := [(.array .byte), .int], returnType := some .byte }, accessFlags := 8, code := some k14c1 }
def k14c2 : Code := { maxStack := 5, maxLocals := 6, code := jdk_52_method_16_code, exceptionTable := #[], attributes := #[] }
def k14m2 : Method := { name := "compress", desc := "([CII)[B", sig := { parameters := [(.array .char), .int, .int], returnType := some (.array .byte) }, accessFlags := 9, code := some k14c2 }
def k14c3 : Code := { maxStack := 3, maxLocals := 7, code := jdk_52_method_21_code, exceptionTable := #[], attributes := #[] }
def k14m3 : Method := { name := "compress", desc := "([CI[BII)I", sig := { parameters := [(.array .char), .int, (.array .byte), .int, .int], returnType := some .int }, accessFlags := 9, code := some k14c3 }
/-- java/lang/StringUTF16 -/
def k14 : Class := { plain "java/lang/StringUTF16" (some 0) with
  accessFlags := 48
  interfaces := #[]
  cf := some (fileOf pool14 12 #[.nestMembers #[627, 629, 369]] #[{ accessFlags := 0, nameIndex := 9, descriptorIndex := 10, attributes := #[] }, { accessFlags := 8, nameIndex := 261, descriptorIndex := 262, attributes := #[] }, { accessFlags := 9, nameIndex := 117, descriptorIndex := 122, attributes := #[] }, { accessFlags := 9, nameIndex := 117, descriptorIndex := 118, attributes := #[] }] 48 6 #[] #[{ accessFlags := 26, nameIndex := 61, descriptorIndex := 62, attributes := #[] }, { accessFlags := 26, nameIndex := 65, descriptorIndex := 62, attributes := #[] }, { accessFlags := 24, nameIndex := 430, descriptorIndex := 62, attributes := #[] }, { accessFlags := 4120, nameIndex := 46, descriptorIndex := 47, attributes := #[] }])
  fields := #[{ name := "HI_BYTE_SHIFT", type := .int, accessFlags := 26, slot := 0, constantValue := 0 }, { name := "LO_BYTE_SHIFT", type := .int, accessFlags := 26, slot := 1, constantValue := 0 }, { name := "MAX_LENGTH", type := .int, accessFlags := 24, slot := 2, constantValue := 0 }, { name := "$assertionsDisabled", type := .boolean, accessFlags := 4120, slot := 3, constantValue := 0 }]
  methods := #[k14m0, k14m1, k14m2, k14m3]
  instanceTypes := #[]
  staticTypes := #[.int, .int, .int, .boolean]
  resolved := Array.replicate 635 none
  statics := none }

def pool15 : Array CpInfo := pool [(2, .class_ 4), (1, u "java/lang/Object"), (0, u "<init>"), (0, u "()V"), (17, .class_ 26), (1, u "jdk/internal/util/Preconditions"), (28, .class_ 56), (0, u "jdk/internal/util/Preconditions$4"), (57, .class_ 115), (0, u "jdk/internal/util/Preconditions$1"), (7, u "SIOOBE_FORMATTER"), (0, u "Ljava/util/function/BiFunction;"), (0, .class_ 126), (0, u "jdk/internal/util/Preconditions$2"), (3, u "AIOOBE_FORMATTER"), (0, .class_ 132), (0, u "jdk/internal/util/Preconditions$3"), (3, u "IOOBE_FORMATTER")] 57

def k15m0 : Method := { name := "<init>", desc := "()V", sig := { parameters := [], returnType := none }, accessFlags := 1, code := none }
/-- jdk/internal/util/Preconditions -/
def k15 : Class := { plain "jdk/internal/util/Preconditions" (some 0) with
  accessFlags := 33
  interfaces := #[]
  cf := some (fileOf pool15 24 #[.nestMembers #[55, 131, 125, 114]] #[{ accessFlags := 1, nameIndex := 5, descriptorIndex := 6, attributes := #[] }] 33 2 #[] #[{ accessFlags := 25, nameIndex := 123, descriptorIndex := 124, attributes := #[] }, { accessFlags := 25, nameIndex := 130, descriptorIndex := 124, attributes := #[] }, { accessFlags := 25, nameIndex := 136, descriptorIndex := 124, attributes := #[] }])
  fields := #[{ name := "SIOOBE_FORMATTER", type := (.object "java/util/function/BiFunction"), accessFlags := 25, slot := 0, constantValue := 0 }, { name := "AIOOBE_FORMATTER", type := (.object "java/util/function/BiFunction"), accessFlags := 25, slot := 1, constantValue := 0 }, { name := "IOOBE_FORMATTER", type := (.object "java/util/function/BiFunction"), accessFlags := 25, slot := 2, constantValue := 0 }]
  methods := #[k15m0]
  instanceTypes := #[]
  staticTypes := #[(.object "java/util/function/BiFunction"), (.object "java/util/function/BiFunction"), (.object "java/util/function/BiFunction")]
  resolved := Array.replicate 194 none
  statics := some 2 }

def pool16 : Array CpInfo := pool [(9, u "<init>"), (6, .class_ 18), (1, u "java/lang/Object"), (0, u "()V"), (1, .class_ 23), (1, u "jdk/internal/util/ArraysSupport"), (0, u "LOG2_ARRAY_LONG_INDEX_SCALE"), (0, u "I"), (2, u "U"), (0, u "Ljdk/internal/misc/Unsafe;"), (8, u "BIG_ENDIAN"), (0, u "Z"), (8, u "LOG2_BYTE_BIT_SIZE"), (4, u "LOG2_ARRAY_INT_INDEX_SCALE"), (54, u "JLA"), (0, u "Ljdk/internal/access/JavaLangAccess;"), (11, u "LOG2_ARRAY_BOOLEAN_INDEX_SCALE"), (9, u "LOG2_ARRAY_BYTE_INDEX_SCALE"), (5, u "LOG2_ARRAY_CHAR_INDEX_SCALE"), (5, u "LOG2_ARRAY_SHORT_INDEX_SCALE"), (18, u "LOG2_ARRAY_FLOAT_INDEX_SCALE"), (24, u "LOG2_ARRAY_DOUBLE_INDEX_SCALE"), (89, u "T_BOOLEAN"), (2, u "T_CHAR"), (1, u "T_FLOAT"), (1, u "T_DOUBLE"), (1, u "T_BYTE"), (1, u "T_SHORT"), (1, u "T_INT"), (1, u "T_LONG"), (1, u "SOFT_MAX_ARRAY_LENGTH")] 83

def k16m0 : Method := { name := "<init>", desc := "()V", sig := { parameters := [], returnType := none }, accessFlags := 2, code := none }
/-- jdk/internal/util/ArraysSupport -/
def k16 : Class := { plain "jdk/internal/util/ArraysSupport" (some 0) with
  accessFlags := 33
  interfaces := #[]
  cf := some (fileOf pool16 21 #[] #[{ accessFlags := 2, nameIndex := 9, descriptorIndex := 19, attributes := #[] }] 33 16 #[] #[{ accessFlags := 24, nameIndex := 28, descriptorIndex := 29, attributes := #[] }, { accessFlags := 26, nameIndex := 38, descriptorIndex := 39, attributes := #[] }, { accessFlags := 25, nameIndex := 121, descriptorIndex := 25, attributes := #[] }, { accessFlags := 25, nameIndex := 131, descriptorIndex := 25, attributes := #[] }, { accessFlags := 25, nameIndex := 137, descriptorIndex := 25, attributes := #[] }, { accessFlags := 25, nameIndex := 143, descriptorIndex := 25, attributes := #[] }, { accessFlags := 25, nameIndex := 53, descriptorIndex := 25, attributes := #[] }, { accessFlags := 25, nameIndex := 24, descriptorIndex := 25, attributes := #[] }, { accessFlags := 25, nameIndex := 162, descriptorIndex := 25, attributes := #[] }, { accessFlags := 25, nameIndex := 187, descriptorIndex := 25, attributes := #[] }, { accessFlags := 26, nameIndex := 48, descriptorIndex := 25, attributes := #[] }, { accessFlags := 25, nameIndex := 277, descriptorIndex := 25, attributes := #[] }, { accessFlags := 25, nameIndex := 280, descriptorIndex := 25, attributes := #[] }, { accessFlags := 25, nameIndex := 282, descriptorIndex := 25, attributes := #[] }, { accessFlags := 25, nameIndex := 284, descriptorIndex := 25, attributes := #[] }, { accessFlags := 25, nameIndex := 286, descriptorIndex := 25, attributes := #[] }, { accessFlags := 25, nameIndex := 288, descriptorIndex := 25, attributes := #[] }, { accessFlags := 25, nameIndex := 290, descriptorIndex := 25, attributes := #[] }, { accessFlags := 25, nameIndex := 292, descriptorIndex := 25, attributes := #[] }, { accessFlags := 26, nameIndex := 108, descriptorIndex := 109, attributes := #[] }, { accessFlags := 25, nameIndex := 294, descriptorIndex := 25, attributes := #[] }])
  fields := #[{ name := "U", type := (.object "jdk/internal/misc/Unsafe"), accessFlags := 24, slot := 0, constantValue := 0 }, { name := "BIG_ENDIAN", type := .boolean, accessFlags := 26, slot := 1, constantValue := 0 }, { name := "LOG2_ARRAY_BOOLEAN_INDEX_SCALE", type := .int, accessFlags := 25, slot := 2, constantValue := 0 }, { name := "LOG2_ARRAY_BYTE_INDEX_SCALE", type := .int, accessFlags := 25, slot := 3, constantValue := 0 }, { name := "LOG2_ARRAY_CHAR_INDEX_SCALE", type := .int, accessFlags := 25, slot := 4, constantValue := 0 }, { name := "LOG2_ARRAY_SHORT_INDEX_SCALE", type := .int, accessFlags := 25, slot := 5, constantValue := 0 }, { name := "LOG2_ARRAY_INT_INDEX_SCALE", type := .int, accessFlags := 25, slot := 6, constantValue := 0 }, { name := "LOG2_ARRAY_LONG_INDEX_SCALE", type := .int, accessFlags := 25, slot := 7, constantValue := 0 }, { name := "LOG2_ARRAY_FLOAT_INDEX_SCALE", type := .int, accessFlags := 25, slot := 8, constantValue := 0 }, { name := "LOG2_ARRAY_DOUBLE_INDEX_SCALE", type := .int, accessFlags := 25, slot := 9, constantValue := 0 }, { name := "LOG2_BYTE_BIT_SIZE", type := .int, accessFlags := 26, slot := 10, constantValue := 0 }, { name := "T_BOOLEAN", type := .int, accessFlags := 25, slot := 11, constantValue := 0 }, { name := "T_CHAR", type := .int, accessFlags := 25, slot := 12, constantValue := 0 }, { name := "T_FLOAT", type := .int, accessFlags := 25, slot := 13, constantValue := 0 }, { name := "T_DOUBLE", type := .int, accessFlags := 25, slot := 14, constantValue := 0 }, { name := "T_BYTE", type := .int, accessFlags := 25, slot := 15, constantValue := 0 }, { name := "T_SHORT", type := .int, accessFlags := 25, slot := 16, constantValue := 0 }, { name := "T_INT", type := .int, accessFlags := 25, slot := 17, constantValue := 0 }, { name := "T_LONG", type := .int, accessFlags := 25, slot := 18, constantValue := 0 }, { name := "JLA", type := (.object "jdk/internal/access/JavaLangAccess"), accessFlags := 26, slot := 19, constantValue := 0 }, { name := "SOFT_MAX_ARRAY_LENGTH", type := .int, accessFlags := 25, slot := 20, constantValue := 0 }]
  methods := #[k16m0]
  instanceTypes := #[]
  staticTypes := #[(.object "jdk/internal/misc/Unsafe"), .boolean, .int, .int, .int, .int, .int, .int, .int, .int, .int, .int, .int, .int, .int, .int, .int, .int, .int, (.object "jdk/internal/access/JavaLangAccess"), .int]
  resolved := Array.replicate 378 none
  statics := none }

def pool17 : Array CpInfo := pool [(1, u "java/lang/Cloneable"), (0, .class_ 1), (0, u "java/lang/Object"), (0, .class_ 3)] 3

/-- java/lang/Cloneable -/
def k17 : Class := { plain "java/lang/Cloneable" (some 0) with
  accessFlags := 1537
  interfaces := #[]
  cf := some (fileOf pool17 2 #[] #[] 1537 4 #[] #[])
  fields := #[]
  methods := #[]
  instanceTypes := #[]
  staticTypes := #[]
  resolved := Array.replicate 8 none
  statics := none }

/-- the primitive byte -/
def k18 : Class := { plain "byte" none with kind := .primitive 'B', accessFlags := 0x411 }
/-- [B -/
def k19 : Class := { plain "[B" (some 0) with kind := .array 18 .byte, interfaces := #[17, 4], accessFlags := 1041 }

/-- the primitive char -/
def k20 : Class := { plain "char" none with kind := .primitive 'C', accessFlags := 0x411 }
/-- [C -/
def k21 : Class := { plain "[C" (some 0) with kind := .array 20 .char, interfaces := #[17, 4], accessFlags := 1041 }

/-- the primitive int -/
def k22 : Class := { plain "int" none with kind := .primitive 'I', accessFlags := 0x411 }
/-- [I -/
def k23 : Class := { plain "[I" (some 0) with kind := .array 22 .int, interfaces := #[17, 4], accessFlags := 1041 }

def heap : Heap := #[{ cls := 6, slots := #[.ref 3, .ref 4, .ref 5, .ref 6, .null], vm := .statics 6 },
  { cls := 9, slots := #[.long 0, .int 1, .null, .int 0, .null, .int 0, .int 0], vm := .statics 9 },
  { cls := 15, slots := #[.null, .null, .null], vm := .statics 15 },
  { cls := 6, slots := #[.null, .int 0, .int 0], vm := .none },
  { cls := 6, slots := #[.null, .int 1, .int 0], vm := .none },
  { cls := 6, slots := #[.null, .int 2, .int 0], vm := .none },
  { cls := 6, slots := #[.null, .int 3, .int 0], vm := .none }]
def classes : Array Class := #[k0, k1, k2, k3, k4, k5, k6, k7, k8, k9, k10, k11, k12, k13, k14, k15, k16, k17, k18, k19, k20, k21, k22, k23]
def interned : List (Array UInt16 × Addr) := []
def slotsUsed : Nat := 27
def theMethod : MethodId := ⟨1, 2⟩
def args0 : Array Value := #[.int 5, .int 6, .int 7]
def aboutOver (below : List Frame) : State where
  vm := { classes := classes, interned := interned.toArray }
  heap := heap
  slotsUsed := slotsUsed
  threads := #[{ frames := .invoking theMethod args0 :: below }]
def below0 : List Frame := [.native { method := ⟨0, 0⟩, args := #[] }]
def about1 : State := aboutOver below0
def p0 : Program := .bare "" "" ""
def e0 : Env := launch0.env 0 0 0
theorem w_frames : about1.frames = Frame.invoking theMethod args0 :: below0 := rfl
set_option maxRecDepth 65536 in
theorem w_args : argsFit about1.vm theMethod args0 = true := by decide +kernel
set_option maxRecDepth 65536 in
theorem w_heap : heapFits about1 = true := by decide +kernel
set_option maxRecDepth 65536 in
theorem w_runnable : about1.curStatus? = some .runnable := by decide +kernel
set_option maxRecDepth 65536 in
theorem w_alone : about1.alone = true := by decide +kernel
set_option maxRecDepth 65536 in
theorem w_named : about1.methodNamed? x = some theMethod := by decide +kernel
set_option maxRecDepth 65536 in
theorem w_hears : about1.hears theMethod below0 = true := by decide +kernel
set_option maxRecDepth 65536 in
theorem w_ripe : about1.ripe theMethod args0 below0 = true := by decide +kernel
theorem w_running : about1.status = .running := rfl
set_option maxRecDepth 65536 in
theorem w_room : about1.hasRoom e0.platform room_1 = true :=
  launch0.hasRoom_least _ room_1 (by decide +kernel) (by decide +kernel) (by decide +kernel) (by decide +kernel) (by decide +kernel) (by decide +kernel)
theorem allAtoms_all (ts : List Jvm.Cond) (a : Array Jvm.Value) (st : Jvm.State) : (allAtoms ts).before a st = ts.all (fun c => c.before a st) := by
  induction ts with
  | nil => rfl
  | cons c t ih =>
    show (Jvm.Cond.and c (allAtoms t)).before a st = _
    rw [Jvm.Cond.before_and, ih, List.all_cons]
def words1 : List Jvm.Cond := Jvm.Cond.code x code maxLocals ret :: tables_1
/-- a 'code' word, met by the world's own term for the bytes: nothing is compared byte by byte -/
theorem code_word {y : MethodName} {bytes : ByteArray} {mx : Nat} {rt : Option FieldType} {a : Array Value} {s : State} {m : MethodId} {meth : Method} {c : Code} (h1 : s.methodNamed? y = some m) (h2 : s.vm.method? m = some meth) (h3 : meth.code = some c) (h4 : c.code = bytes)
    (h5 : (c.maxLocals == mx && c.exceptionTable.isEmpty && decide (c.maxStack ≤ mostOperands) && decide (meth.sig.returnType = rt) && !meth.locks && decide (parseMethodDescriptor y.desc = some meth.sig)) = true) : (Jvm.Cond.code y bytes mx rt).before a s = true := by
  simp only [Bool.and_eq_true, beq_iff_eq, Bool.not_eq_true', decide_eq_true_eq] at h5
  obtain ⟨⟨⟨⟨⟨g1, g2⟩, g3⟩, g4⟩, g5⟩, g6⟩ := h5
  simp [Cond.before, Cond.holds, Cond.value, h1, h2, h3, h4, g1, g2, g3, g4, g5, g6]
def isCode : Jvm.Cond → Bool
  | .code _ _ _ _ => true
  | _ => false
theorem all_split {L : List Jvm.Cond} {P : Jvm.Cond → Bool} (h1 : L.all (fun c => isCode c || P c) = true) (h2 : ∀ c ∈ L.filter isCode, P c = true) : L.all P = true := by
  refine List.all_eq_true.mpr fun c hc => ?_
  have h := List.all_eq_true.mp h1 c hc
  rcases Bool.eq_false_or_eq_true (isCode c) with hi | hi
  · exact h2 c (List.mem_filter.mpr ⟨hc, hi⟩)
  · simpa [hi] using h
set_option maxRecDepth 65536 in
theorem w_c0 : (Jvm.Cond.code x code maxLocals ret).before args0 about1 = true := code_word (m := ⟨1, 2⟩) (meth := k1m2) (c := k1c2) (by decide +kernel) rfl rfl rfl (by decide +kernel)
set_option maxRecDepth 65536 in
theorem w_c1 : (Jvm.Cond.code ({ cls := "com/example/time_for_trials/timefortrials/cli/OptionTakesValuePinLaw", name := "occursOf", desc := "(I)Lcom/example/time_for_trials/timefortrials/cli/Usage$Occurs;" } : Jvm.MethodName) method_2_code (1 : Nat) (Option.some (Jvm.ClassFile.FieldType.object "com/example/time_for_trials/timefortrials/cli/Usage$Occurs"))).before args0 about1 = true := code_word (m := ⟨1, 1⟩) (meth := k1m1) (c := k1c1) (by decide +kernel) rfl rfl rfl (by decide +kernel)
set_option maxRecDepth 65536 in
theorem w_c2 : (Jvm.Cond.code ({ cls := "java/lang/String", name := "<init>", desc := "([C)V" } : Jvm.MethodName) jdk_42_method_3_code (2 : Nat) (Option.none : Option Jvm.ClassFile.FieldType)).before args0 about1 = true := code_word (m := ⟨9, 1⟩) (meth := k9m1) (c := k9c1) (by decide +kernel) rfl rfl rfl (by decide +kernel)
set_option maxRecDepth 65536 in
theorem w_c3 : (Jvm.Cond.code ({ cls := "java/lang/String", name := "<init>", desc := "([CIILjava/lang/Void;)V" } : Jvm.MethodName) jdk_42_method_149_code (6 : Nat) (Option.none : Option Jvm.ClassFile.FieldType)).before args0 about1 = true := code_word (m := ⟨9, 3⟩) (meth := k9m3) (c := k9c3) (by decide +kernel) rfl rfl rfl (by decide +kernel)
set_option maxRecDepth 65536 in
theorem w_c4 : (Jvm.Cond.code ({ cls := "java/lang/Object", name := "<init>", desc := "()V" } : Jvm.MethodName) object_method_1_code (1 : Nat) (Option.none : Option Jvm.ClassFile.FieldType)).before args0 about1 = true := code_word (m := ⟨0, 0⟩) (meth := k0m0) (c := k0c0) (by decide +kernel) rfl rfl rfl (by decide +kernel)
set_option maxRecDepth 65536 in
theorem w_c5 : (Jvm.Cond.code ({ cls := "java/lang/String", name := "valueOf", desc := "(C)Ljava/lang/String;" } : Jvm.MethodName) jdk_42_method_139_code (1 : Nat) (Option.some (Jvm.ClassFile.FieldType.object "java/lang/String"))).before args0 about1 = true := code_word (m := ⟨9, 2⟩) (meth := k9m2) (c := k9c2) (by decide +kernel) rfl rfl rfl (by decide +kernel)
set_option maxRecDepth 65536 in
theorem w_c6 : (Jvm.Cond.code ({ cls := "java/lang/StringLatin1", name := "canEncode", desc := "(C)Z" } : Jvm.MethodName) jdk_43_method_3_code (1 : Nat) (Option.some Jvm.ClassFile.FieldType.boolean)).before args0 about1 = true := code_word (m := ⟨10, 1⟩) (meth := k10m1) (c := k10c1) (by decide +kernel) rfl rfl rfl (by decide +kernel)
set_option maxRecDepth 65536 in
theorem w_c7 : (Jvm.Cond.code ({ cls := "java/lang/StringLatin1", name := "toBytes", desc := "(C)[B" } : Jvm.MethodName) jdk_43_method_46_code (1 : Nat) (Option.some (Jvm.ClassFile.FieldType.array Jvm.ClassFile.FieldType.byte))).before args0 about1 = true := code_word (m := ⟨10, 2⟩) (meth := k10m2) (c := k10c2) (by decide +kernel) rfl rfl rfl (by decide +kernel)
set_option maxRecDepth 65536 in
theorem w_c8 : (Jvm.Cond.code ({ cls := "java/lang/String", name := "<init>", desc := "([BB)V" } : Jvm.MethodName) jdk_42_method_151_code (3 : Nat) (Option.none : Option Jvm.ClassFile.FieldType)).before args0 about1 = true := code_word (m := ⟨9, 4⟩) (meth := k9m4) (c := k9c4) (by decide +kernel) rfl rfl rfl (by decide +kernel)
set_option maxRecDepth 65536 in
theorem w_c9 : (Jvm.Cond.code ({ cls := "com/example/time_for_trials/timefortrials/cli/Usage$Option", name := "<init>", desc := "(Ljava/lang/String;Ljava/lang/String;Lcom/example/time_for_trials/timefortrials/cli/Usage$Occurs;Ljava/lang/String;)V" } : Jvm.MethodName) prog_9_method_1_code (5 : Nat) (Option.none : Option Jvm.ClassFile.FieldType)).before args0 about1 = true := code_word (m := ⟨12, 0⟩) (meth := k12m0) (c := k12c0) (by decide +kernel) rfl rfl rfl (by decide +kernel)
set_option maxRecDepth 65536 in
theorem w_c10 : (Jvm.Cond.code ({ cls := "java/lang/Record", name := "<init>", desc := "()V" } : Jvm.MethodName) jdk_30_method_1_code (1 : Nat) (Option.none : Option Jvm.ClassFile.FieldType)).before args0 about1 = true := code_word (m := ⟨11, 0⟩) (meth := k11m0) (c := k11c0) (by decide +kernel) rfl rfl rfl (by decide +kernel)
set_option maxRecDepth 65536 in
theorem w_c11 : (Jvm.Cond.code ({ cls := "com/example/time_for_trials/timefortrials/cli/Usage$Option", name := "takesValue", desc := "()Z" } : Jvm.MethodName) prog_9_method_2_code (1 : Nat) (Option.some Jvm.ClassFile.FieldType.boolean)).before args0 about1 = true := code_word (m := ⟨12, 1⟩) (meth := k12m1) (c := k12c1) (by decide +kernel) rfl rfl rfl (by decide +kernel)
set_option maxRecDepth 65536 in
theorem w_c12 : (Jvm.Cond.code ({ cls := "com/example/time_for_trials/timefortrials/cli/Usage", name := "flag", desc := "(Ljava/lang/String;Ljava/lang/String;)Lcom/example/time_for_trials/timefortrials/cli/Usage$Option;" } : Jvm.MethodName) prog_6_method_2_code (2 : Nat) (Option.some (Jvm.ClassFile.FieldType.object "com/example/time_for_trials/timefortrials/cli/Usage$Option"))).before args0 about1 = true := code_word (m := ⟨13, 0⟩) (meth := k13m0) (c := k13c0) (by decide +kernel) rfl rfl rfl (by decide +kernel)
set_option maxRecDepth 65536 in
theorem w_c13 : (Jvm.Cond.code ({ cls := "java/lang/StringUTF16", name := "compress", desc := "([CII)[B" } : Jvm.MethodName) jdk_52_method_16_code (6 : Nat) (Option.some (Jvm.ClassFile.FieldType.array Jvm.ClassFile.FieldType.byte))).before args0 about1 = true := code_word (m := ⟨14, 2⟩) (meth := k14m2) (c := k14c2) (by decide +kernel) rfl rfl rfl (by decide +kernel)
set_option maxRecDepth 65536 in
theorem w_c14 : (Jvm.Cond.code ({ cls := "java/lang/StringUTF16", name := "compress", desc := "([CI[BII)I" } : Jvm.MethodName) jdk_52_method_21_code (7 : Nat) (Option.some Jvm.ClassFile.FieldType.int)).before args0 about1 = true := code_word (m := ⟨14, 3⟩) (meth := k14m3) (c := k14c3) (by decide +kernel) rfl rfl rfl (by decide +kernel)
set_option maxRecDepth 65536 in
theorem w_c15 : (Jvm.Cond.code ({ cls := "java/lang/StringUTF16", name := "coderFromArrayLen", desc := "([BI)B" } : Jvm.MethodName) jdk_52_method_15_code (2 : Nat) (Option.some Jvm.ClassFile.FieldType.byte)).before args0 about1 = true := code_word (m := ⟨14, 1⟩) (meth := k14m1) (c := k14c1) (by decide +kernel) rfl rfl rfl (by decide +kernel)
def codes1 : List Jvm.Cond := [Jvm.Cond.code x code maxLocals ret, Jvm.Cond.code ({ cls := "com/example/time_for_trials/timefortrials/cli/OptionTakesValuePinLaw", name := "occursOf", desc := "(I)Lcom/example/time_for_trials/timefortrials/cli/Usage$Occurs;" } : Jvm.MethodName) method_2_code (1 : Nat) (Option.some (Jvm.ClassFile.FieldType.object "com/example/time_for_trials/timefortrials/cli/Usage$Occurs")), Jvm.Cond.code ({ cls := "java/lang/String", name := "<init>", desc := "([C)V" } : Jvm.MethodName) jdk_42_method_3_code (2 : Nat) (Option.none : Option Jvm.ClassFile.FieldType), Jvm.Cond.code ({ cls := "java/lang/String", name := "<init>", desc := "([CIILjava/lang/Void;)V" } : Jvm.MethodName) jdk_42_method_149_code (6 : Nat) (Option.none : Option Jvm.ClassFile.FieldType), Jvm.Cond.code ({ cls := "java/lang/Object", name := "<init>", desc := "()V" } : Jvm.MethodName) object_method_1_code (1 : Nat) (Option.none : Option Jvm.ClassFile.FieldType), Jvm.Cond.code ({ cls := "java/lang/String", name := "valueOf", desc := "(C)Ljava/lang/String;" } : Jvm.MethodName) jdk_42_method_139_code (1 : Nat) (Option.some (Jvm.ClassFile.FieldType.object "java/lang/String")), Jvm.Cond.code ({ cls := "java/lang/StringLatin1", name := "canEncode", desc := "(C)Z" } : Jvm.MethodName) jdk_43_method_3_code (1 : Nat) (Option.some Jvm.ClassFile.FieldType.boolean), Jvm.Cond.code ({ cls := "java/lang/StringLatin1", name := "toBytes", desc := "(C)[B" } : Jvm.MethodName) jdk_43_method_46_code (1 : Nat) (Option.some (Jvm.ClassFile.FieldType.array Jvm.ClassFile.FieldType.byte)), Jvm.Cond.code ({ cls := "java/lang/String", name := "<init>", desc := "([BB)V" } : Jvm.MethodName) jdk_42_method_151_code (3 : Nat) (Option.none : Option Jvm.ClassFile.FieldType), Jvm.Cond.code ({ cls := "com/example/time_for_trials/timefortrials/cli/Usage$Option", name := "<init>", desc := "(Ljava/lang/String;Ljava/lang/String;Lcom/example/time_for_trials/timefortrials/cli/Usage$Occurs;Ljava/lang/String;)V" } : Jvm.MethodName) prog_9_method_1_code (5 : Nat) (Option.none : Option Jvm.ClassFile.FieldType), Jvm.Cond.code ({ cls := "java/lang/Record", name := "<init>", desc := "()V" } : Jvm.MethodName) jdk_30_method_1_code (1 : Nat) (Option.none : Option Jvm.ClassFile.FieldType), Jvm.Cond.code ({ cls := "com/example/time_for_trials/timefortrials/cli/Usage$Option", name := "takesValue", desc := "()Z" } : Jvm.MethodName) prog_9_method_2_code (1 : Nat) (Option.some Jvm.ClassFile.FieldType.boolean), Jvm.Cond.code ({ cls := "com/example/time_for_trials/timefortrials/cli/Usage", name := "flag", desc := "(Ljava/lang/String;Ljava/lang/String;)Lcom/example/time_for_trials/timefortrials/cli/Usage$Option;" } : Jvm.MethodName) prog_6_method_2_code (2 : Nat) (Option.some (Jvm.ClassFile.FieldType.object "com/example/time_for_trials/timefortrials/cli/Usage$Option")), Jvm.Cond.code ({ cls := "java/lang/StringUTF16", name := "compress", desc := "([CII)[B" } : Jvm.MethodName) jdk_52_method_16_code (6 : Nat) (Option.some (Jvm.ClassFile.FieldType.array Jvm.ClassFile.FieldType.byte)), Jvm.Cond.code ({ cls := "java/lang/StringUTF16", name := "compress", desc := "([CI[BII)I" } : Jvm.MethodName) jdk_52_method_21_code (7 : Nat) (Option.some Jvm.ClassFile.FieldType.int), Jvm.Cond.code ({ cls := "java/lang/StringUTF16", name := "coderFromArrayLen", desc := "([BI)B" } : Jvm.MethodName) jdk_52_method_15_code (2 : Nat) (Option.some Jvm.ClassFile.FieldType.byte)]
set_option maxRecDepth 65536 in
theorem codes_eq : words1.filter isCode = codes1 := rfl
theorem w_codes : ∀ c ∈ words1.filter isCode, c.before args0 about1 = true := by
  rw [codes_eq]
  intro c hc
  simp only [codes1, List.mem_cons, List.not_mem_nil, or_false] at hc
  rcases hc with rfl | rfl | rfl | rfl | rfl | rfl | rfl | rfl | rfl | rfl | rfl | rfl | rfl | rfl | rfl | rfl
  · exact w_c0
  · exact w_c1
  · exact w_c2
  · exact w_c3
  · exact w_c4
  · exact w_c5
  · exact w_c6
  · exact w_c7
  · exact w_c8
  · exact w_c9
  · exact w_c10
  · exact w_c11
  · exact w_c12
  · exact w_c13
  · exact w_c14
  · exact w_c15
set_option maxRecDepth 65536 in
theorem w_t1 : (words1.take 24).all (fun c => isCode c || c.before args0 about1) = true := by decide +kernel
set_option maxRecDepth 65536 in
theorem w_t2 : ((words1.drop 24).take 24).all (fun c => isCode c || c.before args0 about1) = true := by decide +kernel
set_option maxRecDepth 65536 in
theorem w_t3 : (((words1.drop 24).drop 24).take 24).all (fun c => isCode c || c.before args0 about1) = true := by decide +kernel
set_option maxRecDepth 65536 in
theorem w_t4 : (((words1.drop 24).drop 24).drop 24).all (fun c => isCode c || c.before args0 about1) = true := by decide +kernel
theorem w_tables : (allAtoms (Jvm.Cond.code x code maxLocals ret :: tables_1)).before args0 about1 = true := by
  rw [allAtoms_all]
  show words1.all (fun c => c.before args0 about1) = true
  refine all_split ?_ w_codes
  rw [← List.take_append_drop 24 words1, List.all_append, w_t1, ← List.take_append_drop 24 (words1.drop 24), List.all_append, w_t2, ← List.take_append_drop 24 ((words1.drop 24).drop 24), List.all_append, w_t3, w_t4]
  rfl
set_option maxRecDepth 65536 in
theorem w_rest : rest_1_c.before args0 about1 = true := by decide +kernel
set_option maxRecDepth 65536 in
theorem w_case : (Jvm.Cond.and given_1 narrow_1).before args0 about1 = true := by decide +kernel
set_option maxRecDepth 65536 in
theorem w_consts : constsHeld consts_1 about1 := Jvm.Lit.constsHeldB_iff.mp (by decide +kernel)
theorem w_applies : (headSpec (Jvm.Cond.code x code maxLocals ret :: tables_1) room_1).applies x e0.platform about1 = true :=
  (Spec.applies_iff w_frames).mpr ⟨w_running, w_runnable, w_alone, w_named, w_hears, w_ripe, w_room, w_tables⟩
theorem atStart : AtStart classFile x code maxLocals ret World_1 tables_1 room_1 Calls_1 rest_1 Pre_1 launch0 p0 e0 about1 theMethod args0 below0 :=
  ⟨lists_1, trivial, launch0.admits_env _ _ _, launch0.least_env, fairChoices_fair.cas, fairChoices_fair.clock, w_frames, w_args, w_heap, w_applies, ⟨w_consts, trivial⟩, w_rest, w_case⟩
end start1
theorem witness_1 : WitnessClaimed_1 := ⟨start1.p0, start1.e0, start1.about1, start1.theMethod, start1.args0, start1.below0, start1.atStart⟩
end Jvm.Pilot.@@N@@
